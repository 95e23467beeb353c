import JvmDerived
import JvmDerived.Pilot.@@N@@Statement
import JvmDerived.Pilot.@@N@@Code
set_option linter.unusedVariables false
set_option linter.unusedSimpArgs false
/- laws to paste: Road.backV (cut by pick.py; bodies as the Statement names them) -/
namespace Jvm.Pilot.@@N@@
namespace StrChars
open Jvm Sem ClassFile Op Lib Jvm.Stand Jvm.Free.XT Jvm.Free.ALB Jvm.Free.JM Jvm.Free
open Jvm.Lib.Cold (StaticIs)
/-- a char array whose places are chars -/
def Ch (a : Addr) (A : Cell) (U : State) : Prop := Arr .char a A U ∧ Typed .char A
theorem Ch.mv {a : Addr} {A : Cell} {U U' : State} (h : Ch a A U) (hal : U.vm.Alike U'.vm) (hh : U'.heap = U.heap) : Ch a A U' := ⟨h.1.mv hal hh, h.2⟩
theorem Ch.keep {a : Addr} {A : Cell} {U U' : State} (h : Ch a A U) (hal : U.vm.Alike U'.vm) (hk : U'.heap[a]? = some A) : Ch a A U' := ⟨h.1.keep hal hk, h.2⟩
/-- what place i of a char[]'s cell holds -/
def cv (A : Cell) (i : Nat) : Int32 := match A.slots[i]? with | some (.int x) => x | _ => 0
theorem Ch.get {a : Addr} {A : Cell} {U : State} (h : Ch a A U) {i : Nat} (hi : i < A.slots.size) : A.slots[i]? = some (.int (cv A i)) := by
  have e := Array.getElem?_eq_getElem hi
  have f := h.2 i _ e
  unfold cv; rw [e]
  generalize A.slots[i] = v at f
  cases v <;> simp [fits] at f ⊢
/-- the byte that i2b leaves of a char -/
def lo8 (x : Int32) : Int32 := x.toInt8.toInt32
theorem fits_lo8 (y : Int32) : fits .byte (.int (lo8 y)) = true := by
  have h1 := y.toInt8.le_toInt
  have h2 := y.toInt8.toInt_lt
  simp only [lo8, fits, Bool.and_eq_true, decide_eq_true_eq, Int32.le_iff_toInt_le, Int8.toInt_toInt32, show (-128 : Int32).toInt = -128 from by decide, show (127 : Int32).toInt = 127 from by decide]
  omega
/-- A' is A but that each place j of lo .. hi - 1 holds f j -/
def Laid (A A' : Cell) (lo hi : Nat) (f : Nat → Value) : Prop := A'.cls = A.cls ∧ A'.vm = A.vm ∧ A'.slots.size = A.slots.size ∧ ∀ i, A'.slots[i]? = if lo ≤ i ∧ i < hi then some (f i) else A.slots[i]?
theorem Laid.zero (A : Cell) (lo : Nat) (f : Nat → Value) : Laid A A lo (lo + 0) f := ⟨rfl, rfl, rfl, fun i => by rw [if_neg (by omega)]⟩
theorem Laid.step {A Ak : Cell} {lo k : Nat} {f : Nat → Value} {v : Value} (h : Laid A Ak lo k f) (hlo : lo ≤ k) (hk : k < Ak.slots.size) (hv : v = f k) : Laid A (Ak.setSlot k v) lo (k + 1) f := by
  refine ⟨h.1, h.2.1, by simpa [Cell.setSlot] using h.2.2.1, fun i => ?_⟩
  by_cases e : k = i
  · subst e; rw [Cell.slots_setSlot_self v hk, if_pos (by omega), hv]
  · rw [Cell.slots_setSlot_ne v e, h.2.2.2 i]
    by_cases q : lo ≤ i ∧ i < k
    · rw [if_pos q, if_pos (by omega)]
    · rw [if_neg q, if_neg (by omega)]
def U16 : String := "java/lang/StringUTF16"
namespace Cmp5
def yN : MethodName := ⟨"java/lang/StringUTF16", "compress", "([CI[BII)I"⟩
abbrev yB : ByteArray := jdk_52_method_21_code
theorem d0 : decode yB 0 = .ok (.iconst 0, 1) := by decide +kernel
theorem d1 : decode yB 1 = .ok (.istore 5, 2) := by decide +kernel
theorem d3 : decode yB 3 = .ok (.iload 5, 2) := by decide +kernel
theorem d5 : decode yB 5 = .ok (.iload 4, 2) := by decide +kernel
theorem d7 : decode yB 7 = .ok (.if_icmp (.ge) 37, 3) := by decide +kernel
theorem d10 : decode yB 10 = .ok (.aload_n 0, 1) := by decide +kernel
theorem d11 : decode yB 11 = .ok (.iload_n 1, 1) := by decide +kernel
theorem d12 : decode yB 12 = .ok (.caload, 1) := by decide +kernel
theorem d13 : decode yB 13 = .ok (.istore 6, 2) := by decide +kernel
theorem d15 : decode yB 15 = .ok (.iload 6, 2) := by decide +kernel
theorem d17 : decode yB 17 = .ok (.sipush 255, 3) := by decide +kernel
theorem d20 : decode yB 20 = .ok (.if_icmp (.le) 6, 3) := by decide +kernel
theorem d26 : decode yB 26 = .ok (.aload_n 2, 1) := by decide +kernel
theorem d27 : decode yB 27 = .ok (.iload_n 3, 1) := by decide +kernel
theorem d28 : decode yB 28 = .ok (.iload 6, 2) := by decide +kernel
theorem d30 : decode yB 30 = .ok (.i2b, 1) := by decide +kernel
theorem d31 : decode yB 31 = .ok (.bastore, 1) := by decide +kernel
theorem d32 : decode yB 32 = .ok (.iinc 1 1, 3) := by decide +kernel
theorem d35 : decode yB 35 = .ok (.iinc 3 1, 3) := by decide +kernel
theorem d38 : decode yB 38 = .ok (.iinc 5 1, 3) := by decide +kernel
theorem d41 : decode yB 41 = .ok (.goto (-38), 3) := by decide +kernel
theorem d44 : decode yB 44 = .ok (.iload 4, 2) := by decide +kernel
theorem d46 : decode yB 46 = .ok (.ireturn, 1) := by decide +kernel
def site : List Cond := []
def tab : Cond := tabOf yN yB 7 (some .int) site
def P (b : Addr) (A : Cell) (d : Addr) (B : Cell) (o q len : Nat) (args : Array Value) (s : State) : Prop := args = #[.ref b, .int (Int32.ofNat o), .ref d, .int (Int32.ofNat q), .int (Int32.ofNat len)] ∧ Ch b A s ∧ Arr .byte d B s ∧ b ≠ d ∧ o + len ≤ A.slots.size ∧ q + len ≤ B.slots.size ∧ ∀ i, i < len → ¬ 255 < cv A (o + i)
def E (b : Addr) (A : Cell) (d : Addr) (B : Cell) (o q len : Nat) (r : Option Value) (s u : State) : Prop := r = some (.int (Int32.ofNat len)) ∧ ∃ B', Put d B' s u ∧ Laid B B' q (q + len) (fun j => Value.int (lo8 (cv A (o + (j - q)))))
/-- no char of the range above 255: len; the places written hold each char's low byte -/
theorem law (l : Launch) (b : Addr) (A : Cell) (d : Addr) (B : Cell) (o q len : Nat) : Law l yN 5 5 0 0 yB 7 (some .int) site (P b A d B o q len) (E b A d B o q len) (copyLocs d q len) 0 0 := by
  refine Law.of_walk (plainFor_of_name (by decide +kernel)) (by decide +kernel) (by decide +kernel) (by decide) (fun _ _ h => by rw [h.1]; rfl) (fun _ U U' hal hh h => ⟨h.1, h.2.1.mv hal hh, h.2.2.1.mv hal hh, h.2.2.2⟩) (fun r U U' V V' h1 hal h2 h => ⟨h.1, h.2.elim fun B' q => ⟨B', q.1.mv h1 h2, q.2⟩⟩) ?_
  intro p e s m args below meth c s₁ X0 hexec hbytes hml hret hlk hnm hown hh0 W hP
  obtain ⟨rfl, hA, hB, hne, l1, l2, hp⟩ := hP
  have c1 : Steps p.tables e below (s₁.setTop (entryFrame m #[.ref b, .int (Int32.ofNat o), .ref d, .int (Int32.ofNat q), .int (Int32.ofNat len)] 7)) (s₁.setTop (mkF m 0 #[.val (.ref b), .val (.int (Int32.ofNat o)), .val (.ref d), .val (.int (Int32.ofNat q)), .val (.int (Int32.ofNat len)), .unset, .unset] [])) := entry rfl
  have hA0 := hA.1.mv X0.warmed.alike hh0
  have hB0 := hB.mv X0.warmed.alike hh0
  have a31 := hA.1.2.2.2
  have c2 : Steps p.tables e below (s₁.setTop (entryFrame m #[.ref b, .int (Int32.ofNat o), .ref d, .int (Int32.ofNat q), .int (Int32.ofNat len)] 7)) (s₁.setTop (mkF m 3 #[.val (.ref b), .val (.int (Int32.ofNat o)), .val (.ref d), .val (.int (Int32.ofNat q)), .val (.int (Int32.ofNat len)), .val (.int 0), .unset] [])) := c1.trans (by
    refine iconstV X0.here hexec rfl 0 (hb hbytes d0) (by decide) ?_
    refine XS.istore X0.here hexec rfl (hb hbytes d1) rfl rfl ?_
    exact Steps.refl _)
  have loop : ∀ (r i : Nat), i + r = len → ∀ (z : Slot), (z = .unset ∨ ∃ w, z = .val w ∧ w.category = 1) → ∀ (Tl : State) (Bk : Cell), Stand p l e { frames := 0, locals := 0, cells := 0, slots := 0 } s m #[.ref b, .int (Int32.ofNat o), .ref d, .int (Int32.ofNat q), .int (Int32.ofNat len)] below meth c Tl ([] ++ copyLocs d q i) 0 0 → Put d Bk s₁ Tl → Laid B Bk q (q + i) (fun j => Value.int (lo8 (cv A (o + (j - q))))) →
      Steps p.tables e below (s₁.setTop (entryFrame m #[.ref b, .int (Int32.ofNat o), .ref d, .int (Int32.ofNat q), .int (Int32.ofNat len)] 7)) (Tl.setTop (mkF m 3 #[.val (.ref b), .val (.int (Int32.ofNat (o + i))), .val (.ref d), .val (.int (Int32.ofNat (q + i))), .val (.int (Int32.ofNat len)), .val (.int (Int32.ofNat i)), z] [])) → ∃ (T' : State) (B' : Cell) (z' : Slot), Stand p l e { frames := 0, locals := 0, cells := 0, slots := 0 } s m #[.ref b, .int (Int32.ofNat o), .ref d, .int (Int32.ofNat q), .int (Int32.ofNat len)] below meth c T' ([] ++ copyLocs d q len) 0 0 ∧ Put d B' s₁ T' ∧ Laid B B' q (q + len) (fun j => Value.int (lo8 (cv A (o + (j - q))))) ∧
      Steps p.tables e below (s₁.setTop (entryFrame m #[.ref b, .int (Int32.ofNat o), .ref d, .int (Int32.ofNat q), .int (Int32.ofNat len)] 7)) (T'.setTop (mkF m 3 #[.val (.ref b), .val (.int (Int32.ofNat (o + len))), .val (.ref d), .val (.int (Int32.ofNat (q + len))), .val (.int (Int32.ofNat len)), .val (.int (Int32.ofNat len)), z'] [])) := by
    intro r
    induction r with
    | zero =>
      intro i hi z hz Tl Bk Xl pl fl cl
      have hil : i = len := by omega
      rw [hil] at Xl fl cl
      exact ⟨Tl, Bk, z, Xl, pl, fl, cl⟩
    | succ r ih =>
      intro i hi z hz Tl Bk Xl pl fl cl
      have all := X0.warmed.alike.symm.trans Xl.warmed.alike
      have hAl := hA0.keep all (pl.other hne hA0.1)
      have hBk := hB0.like all pl.1 fl.1 fl.2.1 fl.2.2.1
      have hlt : q + i < Bk.slots.size := by rw [fl.2.2.1]; omega
      have c3 : Steps p.tables e below (s₁.setTop (entryFrame m #[.ref b, .int (Int32.ofNat o), .ref d, .int (Int32.ofNat q), .int (Int32.ofNat len)] 7)) (Tl.setTop (mkF m 12 #[.val (.ref b), .val (.int (Int32.ofNat (o + i))), .val (.ref d), .val (.int (Int32.ofNat (q + i))), .val (.int (Int32.ofNat len)), .val (.int (Int32.ofNat i)), z] [.int (Int32.ofNat (o + i)), .ref b])) := cl.trans (by
        refine XS.iload Xl.here hexec rfl (hb hbytes d3) rfl ?_
        refine XS.iload Xl.here hexec rfl (hb hbytes d5) rfl ?_
        refine XS.icmpNo Xl.here hexec rfl (hb hbytes d7) rfl (ii_ge_f (lt32 (by omega) (by omega))) ?_
        refine XS.aloadN Xl.here hexec rfl (hb hbytes d10) rfl rfl ?_
        refine XS.iloadN Xl.here hexec rfl (hb hbytes d11) rfl ?_
        exact Steps.refl _)
      have c4 : Steps p.tables e below (s₁.setTop (entryFrame m #[.ref b, .int (Int32.ofNat o), .ref d, .int (Int32.ofNat q), .int (Int32.ofNat len)] 7)) (Tl.setTop (mkF m 13 #[.val (.ref b), .val (.int (Int32.ofNat (o + i))), .val (.ref d), .val (.int (Int32.ofNat (q + i))), .val (.int (Int32.ofNat len)), .val (.int (Int32.ofNat i)), z] [.int (cv A (o + i))])) := c3.trans (by
        refine Xl.aget hexec hAl rfl (hA.get (i := o + i) (by omega)) rfl rfl (hb hbytes d12) ?_
        exact Steps.refl _)
      have c5 : Steps p.tables e below (s₁.setTop (entryFrame m #[.ref b, .int (Int32.ofNat o), .ref d, .int (Int32.ofNat q), .int (Int32.ofNat len)] 7)) (Tl.setTop (mkF m 15 #[.val (.ref b), .val (.int (Int32.ofNat (o + i))), .val (.ref d), .val (.int (Int32.ofNat (q + i))), .val (.int (Int32.ofNat len)), .val (.int (Int32.ofNat i)), .val (.int (cv A (o + i)))] [])) := c4.trans (by
        refine XS.istoreS Xl.here hexec rfl (hb hbytes d13) rfl rfl hz ?_
        exact Steps.refl _)
      have c6 : Steps p.tables e below (s₁.setTop (entryFrame m #[.ref b, .int (Int32.ofNat o), .ref d, .int (Int32.ofNat q), .int (Int32.ofNat len)] 7)) (Tl.setTop (mkF m 31 #[.val (.ref b), .val (.int (Int32.ofNat (o + i))), .val (.ref d), .val (.int (Int32.ofNat (q + i))), .val (.int (Int32.ofNat len)), .val (.int (Int32.ofNat i)), .val (.int (cv A (o + i)))] [.int (lo8 (cv A (o + i))), .int (Int32.ofNat (q + i)), .ref d])) := c5.trans (by
        refine XS.iload Xl.here hexec rfl (hb hbytes d15) rfl ?_
        refine sipushV Xl.here hexec rfl 255 (hb hbytes d17) (by decide) ?_
        refine XS.icmpYes Xl.here hexec rfl (pc0 := 20) rfl (hb hbytes d20) rfl (ii_le_t (hp i (by omega))) (by decide) rfl ?_
        refine XS.aloadN Xl.here hexec rfl (hb hbytes d26) rfl rfl ?_
        refine XS.iloadN Xl.here hexec rfl (hb hbytes d27) rfl ?_
        refine XS.iload Xl.here hexec rfl (hb hbytes d28) rfl ?_
        refine i2b Xl.here hexec rfl (hb hbytes d30) rfl ?_
        exact Steps.refl _)
      obtain ⟨T7, X7, p7, st7⟩ := Xl.aput hexec hBk rfl hlt rfl (fits_lo8 (cv A (o + i))) (g := (mkF m 31 #[.val (.ref b), .val (.int (Int32.ofNat (o + i))), .val (.ref d), .val (.int (Int32.ofNat (q + i))), .val (.int (Int32.ofNat len)), .val (.int (Int32.ofNat i)), .val (.int (cv A (o + i)))] [.int (lo8 (cv A (o + i))), .int (Int32.ofNat (q + i)), .ref d])) rfl (rest := []) rfl (hb hbytes d31)
      have c8 : Steps p.tables e below (s₁.setTop (entryFrame m #[.ref b, .int (Int32.ofNat o), .ref d, .int (Int32.ofNat q), .int (Int32.ofNat len)] 7)) (T7.setTop (mkF m 32 #[.val (.ref b), .val (.int (Int32.ofNat (o + i))), .val (.ref d), .val (.int (Int32.ofNat (q + i))), .val (.int (Int32.ofNat len)), .val (.int (Int32.ofNat i)), .val (.int (cv A (o + i)))] [])) := c6.trans (st7 _ (Steps.refl _))
      have c9 : Steps p.tables e below (s₁.setTop (entryFrame m #[.ref b, .int (Int32.ofNat o), .ref d, .int (Int32.ofNat q), .int (Int32.ofNat len)] 7)) (T7.setTop (mkF m 3 #[.val (.ref b), .val (.int (Int32.ofNat (o + i) + 1)), .val (.ref d), .val (.int (Int32.ofNat (q + i) + 1)), .val (.int (Int32.ofNat len)), .val (.int (Int32.ofNat i + 1)), .val (.int (cv A (o + i)))] [])) := c8.trans (by
        refine iincV X7.here hexec rfl 1 (hb hbytes d32) (by decide) rfl rfl ?_
        refine iincV X7.here hexec rfl 1 (hb hbytes d35) (by decide) rfl rfl ?_
        refine iincV X7.here hexec rfl 1 (hb hbytes d38) (by decide) rfl rfl ?_
        refine XS.goto X7.here hexec rfl (pc0 := 41) rfl (hb hbytes d41) (by decide) rfl ?_
        exact Steps.refl _)
      have c10 : Steps p.tables e below (s₁.setTop (entryFrame m #[.ref b, .int (Int32.ofNat o), .ref d, .int (Int32.ofNat q), .int (Int32.ofNat len)] 7)) (T7.setTop (mkF m 3 #[.val (.ref b), .val (.int (Int32.ofNat (o + (i + 1)))), .val (.ref d), .val (.int (Int32.ofNat (q + (i + 1)))), .val (.int (Int32.ofNat len)), .val (.int (Int32.ofNat (i + 1))), .val (.int (cv A (o + i)))] [])) := by
        have := c9
        rw [succ32, succ32, succ32] at this
        exact this
      exact ih (i + 1) (by omega) _ (Or.inr ⟨_, rfl, rfl⟩) T7 _ (by rw [copyLocs_step, ← List.append_assoc]; exact X7) (pl.trans p7) (fl.step (by omega) hlt (by simp)) c10
  obtain ⟨T9, B9, z9, X9, p9, f9, g9⟩ := loop len 0 (by omega) .unset (Or.inl rfl) s₁ B (by simpa [copyLocs] using X0) ⟨hB0.1, fun _ _ => rfl, rfl⟩ (Laid.zero _ _ _) c2
  have c11 : Steps p.tables e below (s₁.setTop (entryFrame m #[.ref b, .int (Int32.ofNat o), .ref d, .int (Int32.ofNat q), .int (Int32.ofNat len)] 7)) (T9.setTop (mkF m 46 #[.val (.ref b), .val (.int (Int32.ofNat (o + len))), .val (.ref d), .val (.int (Int32.ofNat (q + len))), .val (.int (Int32.ofNat len)), .val (.int (Int32.ofNat len)), z9] [.int (Int32.ofNat len)])) := g9.trans (by
    refine XS.iload X9.here hexec rfl (hb hbytes d3) rfl ?_
    refine XS.iload X9.here hexec rfl (hb hbytes d5) rfl ?_
    refine XS.icmpYes X9.here hexec rfl (pc0 := 7) rfl (hb hbytes d7) rfl (ii_ge_t (nlt32 (by omega) (Nat.le_refl _))) (by decide) rfl ?_
    refine XS.iload X9.here hexec rfl (hb hbytes d44) rfl ?_
    exact Steps.refl _)
  exact ⟨T9, some (.int (Int32.ofNat len)), _, _, _, X9, by simp, rfl, rfl, (fun h => by cases h), ⟨rfl, B9, p9.from hh0, f9⟩, fun fs hl => c11.trans (X9.ireturnOut hexec hret rfl (Or.inl rfl) (hb hbytes d46) hl)⟩
end Cmp5
namespace Cmp3
def yN : MethodName := ⟨"java/lang/StringUTF16", "compress", "([CII)[B"⟩
abbrev yB : ByteArray := jdk_52_method_16_code
theorem d0 : decode yB 0 = .ok (.iload_n 2, 1) := by decide +kernel
theorem d1 : decode yB 1 = .ok (.newarray .byte, 2) := by decide +kernel
theorem d3 : decode yB 3 = .ok (.astore_n 3, 1) := by decide +kernel
theorem d4 : decode yB 4 = .ok (.aload_n 0, 1) := by decide +kernel
theorem d5 : decode yB 5 = .ok (.iload_n 1, 1) := by decide +kernel
theorem d6 : decode yB 6 = .ok (.aload_n 3, 1) := by decide +kernel
theorem d7 : decode yB 7 = .ok (.iconst 0, 1) := by decide +kernel
theorem d8 : decode yB 8 = .ok (.iload_n 2, 1) := by decide +kernel
theorem d9 : decode yB 9 = .ok (.invokestatic 115, 3) := by decide +kernel
theorem d12 : decode yB 12 = .ok (.istore 4, 2) := by decide +kernel
theorem d14 : decode yB 14 = .ok (.iload 4, 2) := by decide +kernel
theorem d16 : decode yB 16 = .ok (.iload_n 2, 1) := by decide +kernel
theorem d17 : decode yB 17 = .ok (.if_icmp (.eq) 40, 3) := by decide +kernel
theorem d57 : decode yB 57 = .ok (.aload_n 3, 1) := by decide +kernel
theorem d58 : decode yB 58 = .ok (.areturn, 1) := by decide +kernel
def site : List Cond := [.arrayClass .byte, Cmp5.tab] ++ staticW U16 115 Cmp5.yN
def tab : Cond := tabOf yN yB 6 (some (.array .byte)) site
def P (b : Addr) (A : Cell) (o len : Nat) (args : Array Value) (s : State) : Prop := args = #[.ref b, .int (Int32.ofNat o), .int (Int32.ofNat len)] ∧ Ch b A s ∧ o + len ≤ A.slots.size ∧ len ≤ 536870912 ∧ ∀ i, i < len → ¬ 255 < cv A (o + i)
def E (b : Addr) (A : Cell) (o len : Nat) (r : Option Value) (s u : State) : Prop := NewArr .byte "[B" len (fun j => .int (lo8 (cv A (o + j)))) r s u ∧ u.heap.size = s.heap.size + 1
/-- no char of the range above 255: a new byte[] of their low bytes -/
theorem law (l : Launch) (b : Addr) (A : Cell) (o len : Nat) : Law l yN 3 3 1 18 yB 6 (some (.array .byte)) site (P b A o len) (E b A o len) [] 1 len := by
  refine Law.of_walk (plainFor_of_name (by decide +kernel)) (by decide +kernel) (by decide +kernel) (by decide) (fun _ _ h => by rw [h.1]; rfl) (fun _ U U' hal hh h => ⟨h.1, h.2.1.mv hal hh, h.2.2⟩) (fun r U U' V V' h1 hal h2 h => ⟨NewArr.mv r U U' V V' h1 hal h2 h.1, by rw [h1, h2]; exact h.2⟩) ?_
  intro p e s m args below meth c s₁ X0 hexec hbytes hml hret hlk hnm hown hh0 W hP
  obtain ⟨rfl, hA, l1, l2, hp⟩ := hP
  have a31 := hA.1.2.2.2
  have c1 : Steps p.tables e below (s₁.setTop (entryFrame m #[.ref b, .int (Int32.ofNat o), .int (Int32.ofNat len)] 6)) (s₁.setTop (mkF m 0 #[.val (.ref b), .val (.int (Int32.ofNat o)), .val (.int (Int32.ofNat len)), .unset, .unset, .unset] [])) := entry rfl
  have c2 : Steps p.tables e below (s₁.setTop (entryFrame m #[.ref b, .int (Int32.ofNat o), .int (Int32.ofNat len)] 6)) (s₁.setTop (mkF m 1 #[.val (.ref b), .val (.int (Int32.ofNat o)), .val (.int (Int32.ofNat len)), .unset, .unset, .unset] [.int (Int32.ofNat len)])) := c1.trans (by
    refine XS.iloadN X0.here hexec rfl (hb hbytes d0) rfl ?_
    exact Steps.refl _)
  obtain ⟨T3, B3, X3, ba3, bs3, bv3, bh3, bf3, st3⟩ := X0.anew hexec (atype := .byte) (wk W (.arrayClass .byte)) rfl (by show len * 1 ≤ _; omega) (by omega) (g := (mkF m 1 #[.val (.ref b), .val (.int (Int32.ofNat o)), .val (.int (Int32.ofNat len)), .unset, .unset, .unset] [.int (Int32.ofNat len)])) rfl (hb hbytes d1) (rest := []) rfl (Nat.le_refl _) (by show 0 + len ≤ len; omega)
  rw [hh0] at ba3 st3
  have kp3 : XT.Kept s T3 := (XT.Kept.of_eq hh0).push bh3
  have hA3 := hA.keep X3.warmed.alike (kp3 _ _ hA.1.1)
  have hne : b ≠ s.heap.size := hA.1.ne
  have c4 : Steps p.tables e below (s₁.setTop (entryFrame m #[.ref b, .int (Int32.ofNat o), .int (Int32.ofNat len)] 6)) (T3.setTop (mkF m 3 #[.val (.ref b), .val (.int (Int32.ofNat o)), .val (.int (Int32.ofNat len)), .unset, .unset, .unset] [.ref s.heap.size])) := c2.trans (st3 _ (Steps.refl _))
  have c5 : Steps p.tables e below (s₁.setTop (entryFrame m #[.ref b, .int (Int32.ofNat o), .int (Int32.ofNat len)] 6)) (T3.setTop (mkF m 9 #[.val (.ref b), .val (.int (Int32.ofNat o)), .val (.int (Int32.ofNat len)), .val (.ref s.heap.size), .unset, .unset] [.int (Int32.ofNat len), .int 0, .ref s.heap.size, .int (Int32.ofNat o), .ref b])) := c4.trans (by
    refine XS.astoreN X3.here hexec rfl (hb hbytes d3) rfl rfl rfl ?_
    refine XS.aloadN X3.here hexec rfl (hb hbytes d4) rfl rfl ?_
    refine XS.iloadN X3.here hexec rfl (hb hbytes d5) rfl ?_
    refine XS.aloadN X3.here hexec rfl (hb hbytes d6) rfl rfl ?_
    refine iconstV X3.here hexec rfl 0 (hb hbytes d7) (by decide) ?_
    refine XS.iloadN X3.here hexec rfl (hb hbytes d8) rfl ?_
    exact Steps.refl _)
  obtain ⟨v6, T6, X6, E6, g6⟩ := X3.callS hexec (Cmp5.law l b A s.heap.size B3 o 0 len) hown (wks W (staticW U16 115 Cmp5.yN)) (wk W Cmp5.tab) (W := 0) (Nat.le_of_ble_eq_true rfl) (Nat.le_of_ble_eq_true rfl) (Nat.le_refl _) (by show 0 + len + 0 ≤ len; omega) (g := (mkF m 9 #[.val (.ref b), .val (.int (Int32.ofNat o)), .val (.int (Int32.ofNat len)), .val (.ref s.heap.size), .unset, .unset] [.int (Int32.ofNat len), .int (Int32.ofNat 0), .ref s.heap.size, .int (Int32.ofNat o), .ref b])) rfl (by rw [hml]; rfl) c5 (argsL := [.ref b, .int (Int32.ofNat o), .ref s.heap.size, .int (Int32.ofNat 0), .int (Int32.ofNat len)]) (rest := []) rfl rfl (by show 2 * 0 + 0 ≤ _; decide) (hb hbytes d9) (⟨rfl, hA3, ba3, hne, l1, by rw [bs3]; simp, hp⟩)
  obtain ⟨rfl, B6, p6, f6⟩ := E6
  have c7 : Steps p.tables e below (s₁.setTop (entryFrame m #[.ref b, .int (Int32.ofNat o), .int (Int32.ofNat len)] 6)) (T6.setTop (mkF m 12 #[.val (.ref b), .val (.int (Int32.ofNat o)), .val (.int (Int32.ofNat len)), .val (.ref s.heap.size), .unset, .unset] [.int (Int32.ofNat len)])) := g6
  have c8 : Steps p.tables e below (s₁.setTop (entryFrame m #[.ref b, .int (Int32.ofNat o), .int (Int32.ofNat len)] 6)) (T6.setTop (mkF m 58 #[.val (.ref b), .val (.int (Int32.ofNat o)), .val (.int (Int32.ofNat len)), .val (.ref s.heap.size), .val (.int (Int32.ofNat len)), .unset] [.ref s.heap.size])) := c7.trans (by
    refine XS.istore X6.here hexec rfl (hb hbytes d12) rfl rfl ?_
    refine XS.iload X6.here hexec rfl (hb hbytes d14) rfl ?_
    refine XS.iloadN X6.here hexec rfl (hb hbytes d16) rfl ?_
    refine XS.icmpYes X6.here hexec rfl (pc0 := 17) rfl (hb hbytes d17) rfl (ii_eq_t rfl) (by decide) rfl ?_
    refine XS.aloadN X6.here hexec rfl (hb hbytes d57) rfl rfl ?_
    exact Steps.refl _)
  have X8 := X6.wide (L' := []) (cells' := 1) (slots' := len) (fun x hx hlt => by
    simp only [List.nil_append, copyLocs, List.mem_map, List.mem_range] at hx
    obtain ⟨i, -, rfl⟩ := hx
    exact absurd hlt (Nat.lt_irrefl _)) (Nat.le_refl _) (by omega)
  exact ⟨T6, some (.ref s.heap.size), _, _, _, X8, rfl, rfl, rfl, (fun h => by cases h), ⟨⟨rfl, B6, ba3.like (X3.warmed.alike.symm.trans X6.warmed.alike) p6.1 f6.1 f6.2.1 f6.2.2.1, f6.2.1.trans bv3, by rw [X6.warmed.alike.findClass, f6.1]; exact bf3, by rw [f6.2.2.1, bs3]; simp, fun j hj => by rw [f6.2.2.2 j, if_pos (by omega)]; rfl, kp3.put p6 (Nat.le_refl _)⟩, by rw [p6.2.2, bh3, hh0]; simp⟩, fun fs hl => c8.trans (X8.areturnOut hexec rfl hret rfl (hb hbytes d58) hl)⟩
end Cmp3
namespace CodL
def yN : MethodName := ⟨"java/lang/StringUTF16", "coderFromArrayLen", "([BI)B"⟩
abbrev yB : ByteArray := jdk_52_method_15_code
theorem d0 : decode yB 0 = .ok (.iload_n 1, 1) := by decide +kernel
theorem d1 : decode yB 1 = .ok (.aload_n 0, 1) := by decide +kernel
theorem d2 : decode yB 2 = .ok (.arraylength, 1) := by decide +kernel
theorem d3 : decode yB 3 = .ok (.isub, 1) := by decide +kernel
theorem d4 : decode yB 4 = .ok (.bipush 31, 2) := by decide +kernel
theorem d6 : decode yB 6 = .ok (.iushr, 1) := by decide +kernel
theorem d7 : decode yB 7 = .ok (.i2b, 1) := by decide +kernel
theorem d8 : decode yB 8 = .ok (.ireturn, 1) := by decide +kernel
def site : List Cond := []
def tab : Cond := tabOf yN yB 2 (some .byte) site
def P (d : Addr) (B : Cell) (args : Array Value) (s : State) : Prop := args = #[.ref d, .int (Int32.ofNat B.slots.size)] ∧ Arr .byte d B s
def E (r : Option Value) (s u : State) : Prop := XT.PureE (some (.int 0)) r s u
/-- an array as long as the number of chars: LATIN1 -/
theorem law (l : Launch) (d : Addr) (B : Cell) : Law l yN 2 2 0 0 yB 2 (some .byte) site (P d B) E [] 0 0 := by
  refine Law.of_walk (plainFor_of_name (by decide +kernel)) (by decide +kernel) (by decide +kernel) (by decide) (fun _ _ h => by rw [h.1]; rfl) (fun _ U U' hal hh h => ⟨h.1, h.2.mv hal hh⟩) (fun r U U' V V' h1 hal h2 h => XT.PureE.mv r U U' V V' h1 hal h2 h) ?_
  intro p e s m args below meth c s₁ X0 hexec hbytes hml hret hlk hnm hown hh0 W hP
  obtain ⟨rfl, hB⟩ := hP
  have hB0 := hB.mv X0.warmed.alike hh0
  have c1 : Steps p.tables e below (s₁.setTop (entryFrame m #[.ref d, .int (Int32.ofNat B.slots.size)] 2)) (s₁.setTop (mkF m 0 #[.val (.ref d), .val (.int (Int32.ofNat B.slots.size))] [])) := entry rfl
  have c2 : Steps p.tables e below (s₁.setTop (entryFrame m #[.ref d, .int (Int32.ofNat B.slots.size)] 2)) (s₁.setTop (mkF m 2 #[.val (.ref d), .val (.int (Int32.ofNat B.slots.size))] [.ref d, .int (Int32.ofNat B.slots.size)])) := c1.trans (by
    refine XS.iloadN X0.here hexec rfl (hb hbytes d0) rfl ?_
    refine XS.aloadN X0.here hexec rfl (hb hbytes d1) rfl rfl ?_
    exact Steps.refl _)
  have c3 : Steps p.tables e below (s₁.setTop (entryFrame m #[.ref d, .int (Int32.ofNat B.slots.size)] 2)) (s₁.setTop (mkF m 8 #[.val (.ref d), .val (.int (Int32.ofNat B.slots.size))] [.int (lo8 (ushr (Int32.ofNat B.slots.size - Int32.ofNat B.slots.size) 31))])) := c2.trans (by
    refine X0.alen hexec hB0 rfl rfl (hb hbytes d2) ?_
    refine XS.isub X0.here hexec rfl (hb hbytes d3) rfl ?_
    refine bipushV X0.here hexec rfl 31 (hb hbytes d4) (by decide) ?_
    refine iushr X0.here hexec rfl (hb hbytes d6) rfl ?_
    refine i2b X0.here hexec rfl (hb hbytes d7) rfl ?_
    exact Steps.refl _)
  have e0 : lo8 (ushr (Int32.ofNat B.slots.size - Int32.ofNat B.slots.size) 31) = 0 := by rw [Int32.sub_self]; decide
  rw [e0] at c3
  exact ⟨s₁, some (.int 0), _, _, _, X0, rfl, rfl, rfl, (fun h => by cases h), ⟨rfl, hh0⟩, fun fs hl => c3.trans (X0.ireturnOut hexec hret rfl (Or.inr (Or.inr (Or.inl rfl))) (hb hbytes d8) hl)⟩
end CodL
/-- the String at a is Latin-1 over a new byte[] (the heap's one new cell): the low bytes of the len chars of A from o on; every cell but a is kept -/
def Got (a : Addr) (D : Cell) (fV fC : Field) (A : Cell) (o len : Nat) (r : Option Value) (s u : State) : Prop := r = none ∧ ∃ D' V : Cell, Blank "java/lang/String" a D' u ∧ Same D D' [fV.slot, fC.slot] ∧ D'.slots[fV.slot]? = some (.ref s.heap.size) ∧ D'.slots[fC.slot]? = some (.int 0) ∧ Arr .byte s.heap.size V u ∧ V.vm = .none ∧ u.vm.findClass "[B" = some V.cls ∧ V.slots.size = len ∧ (∀ j, j < len → V.slots[j]? = some (.int (lo8 (cv A (o + j))))) ∧ (∀ (y : Addr) (c : Cell), y ≠ a → s.heap[y]? = some c → u.heap[y]? = some c) ∧ u.heap.size = s.heap.size + 1
theorem Got.mv {a : Addr} {D A : Cell} {fV fC : Field} {o len : Nat} : ∀ r (U U' V V' : State), U'.heap = U.heap → V.vm.Alike V'.vm → V'.heap = V.heap → Got a D fV fC A o len r U V → Got a D fV fC A o len r U' V' :=
  fun r U U' V V' h1 hal h2 ⟨e0, D', X, a1, a2, a3, a4, a5, a6, a7, a8, a9, a10, a11⟩ => ⟨e0, D', X, a1.mv hal h2, a2, by rw [h1]; exact a3, a4, by rw [h1]; exact a5.mv hal h2, a6, by rw [hal.findClass]; exact a7, a8, a9, by rw [h1, h2]; exact a10, by rw [h1, h2]; exact a11⟩
namespace New4
def yN : MethodName := ⟨"java/lang/String", "<init>", "([CIILjava/lang/Void;)V"⟩
abbrev yB : ByteArray := jdk_42_method_149_code
theorem d0 : decode yB 0 = .ok (.aload_n 0, 1) := by decide +kernel
theorem d1 : decode yB 1 = .ok (.invokespecial 1, 3) := by decide +kernel
theorem d4 : decode yB 4 = .ok (.iload_n 3, 1) := by decide +kernel
theorem d5 : decode yB 5 = .ok (.ifCond (.ne) 22, 3) := by decide +kernel
theorem d27 : decode yB 27 = .ok (.getstatic 38, 3) := by decide +kernel
theorem d30 : decode yB 30 = .ok (.ifCond (.eq) 28, 3) := by decide +kernel
theorem d33 : decode yB 33 = .ok (.aload_n 1, 1) := by decide +kernel
theorem d34 : decode yB 34 = .ok (.iload_n 2, 1) := by decide +kernel
theorem d35 : decode yB 35 = .ok (.iload_n 3, 1) := by decide +kernel
theorem d36 : decode yB 36 = .ok (.invokestatic 177, 3) := by decide +kernel
theorem d39 : decode yB 39 = .ok (.astore 5, 2) := by decide +kernel
theorem d41 : decode yB 41 = .ok (.aload_n 0, 1) := by decide +kernel
theorem d42 : decode yB 42 = .ok (.aload 5, 2) := by decide +kernel
theorem d44 : decode yB 44 = .ok (.iload_n 3, 1) := by decide +kernel
theorem d45 : decode yB 45 = .ok (.invokestatic 47, 3) := by decide +kernel
theorem d48 : decode yB 48 = .ok (.putfield 15, 3) := by decide +kernel
theorem d51 : decode yB 51 = .ok (.aload_n 0, 1) := by decide +kernel
theorem d52 : decode yB 52 = .ok (.aload 5, 2) := by decide +kernel
theorem d54 : decode yB 54 = .ok (.putfield 9, 3) := by decide +kernel
theorem d57 : decode yB 57 = .ok (.return_, 1) := by decide +kernel
def site : List Cond := [.fieldLink "java/lang/String" 38 "java/lang/String" "COMPACT_STRINGS" "Z", Cmp3.tab, CodL.tab, .laysFinal "java/lang/String" "java/lang/String" "value" "[B", .fieldLink "java/lang/String" 9 "java/lang/String" "value" "[B", .laysFinal "java/lang/String" "java/lang/String" "coder" "B", .fieldLink "java/lang/String" 15 "java/lang/String" "coder" "B"] ++ objW "java/lang/String" 1 ++ staticW "java/lang/String" 177 Cmp3.yN ++ staticW "java/lang/String" 47 CodL.yN
def tab : Cond := tabOf yN yB 6 none site
def P (a : Addr) (D : Cell) (fV fC : Field) (b : Addr) (A : Cell) (z : Int32) (o len : Nat) (args : Array Value) (s : State) : Prop := args = #[.ref a, .ref b, .int (Int32.ofNat o), .int (Int32.ofNat len), .null] ∧ Blank "java/lang/String" a D s ∧ Found "java/lang/String" "value" "[B" fV s ∧ Found "java/lang/String" "coder" "B" fC s ∧ Ch b A s ∧ StaticIs s "java/lang/String" "COMPACT_STRINGS" "Z" (.int z) ∧ ¬ z = 0 ∧ 0 < len ∧ o + len ≤ A.slots.size ∧ len ≤ 536870912 ∧ ∀ i, i < len → ¬ 255 < cv A (o + i)
def E (a : Addr) (D : Cell) (fV fC : Field) (A : Cell) (o len : Nat) (r : Option Value) (s u : State) : Prop := Got a D fV fC A o len r s u
/-- len > 0, no char of the range above 255: a Latin-1 String of their low bytes -/
theorem law (l : Launch) (a : Addr) (D : Cell) (fV fC : Field) (b : Addr) (A : Cell) (z : Int32) (o len : Nat) : Law l yN 5 4 2 35 yB 6 none site (P a D fV fC b A z o len) (E a D fV fC A o len) [⟨a, fC.slot⟩, ⟨a, fV.slot⟩] 1 len := by
  refine Law.of_walk (plainFor_of_name (by decide +kernel)) (by decide +kernel) (by decide +kernel) (by decide) (fun _ _ h => by rw [h.1]; rfl) (fun _ U U' hal hh h => ⟨h.1, h.2.1.mv hal hh, h.2.2.1.al hal, h.2.2.2.1.al hal, h.2.2.2.2.1.mv hal hh, h.2.2.2.2.2.1.there hal hh, h.2.2.2.2.2.2⟩) (fun r U U' V V' h1 hal h2 h => Got.mv r U U' V V' h1 hal h2 h) ?_
  intro p e s m args below meth c s₁ X0 hexec hbytes hml hret hlk hnm hown hh0 W hP
  obtain ⟨rfl, hB, f1, f2, hA, s1, hz, l0, l1, l2, hp⟩ := hP
  have a31 := hA.1.2.2.2
  have c1 : Steps p.tables e below (s₁.setTop (entryFrame m #[.ref a, .ref b, .int (Int32.ofNat o), .int (Int32.ofNat len), .null] 6)) (s₁.setTop (mkF m 0 #[.val (.ref a), .val (.ref b), .val (.int (Int32.ofNat o)), .val (.int (Int32.ofNat len)), .val .null, .unset] [])) := entry rfl
  have c2 : Steps p.tables e below (s₁.setTop (entryFrame m #[.ref a, .ref b, .int (Int32.ofNat o), .int (Int32.ofNat len), .null] 6)) (s₁.setTop (mkF m 1 #[.val (.ref a), .val (.ref b), .val (.int (Int32.ofNat o)), .val (.int (Int32.ofNat len)), .val .null, .unset] [.ref a])) := c1.trans (by
    refine XS.aloadN X0.here hexec rfl (hb hbytes d0) rfl rfl ?_
    exact Steps.refl _)
  obtain ⟨T3, X3, q3, st3⟩ := X0.oinit hexec hown (wks W (objW "java/lang/String" 1)) (g := (mkF m 1 #[.val (.ref a), .val (.ref b), .val (.int (Int32.ofNat o)), .val (.int (Int32.ofNat len)), .val .null, .unset] [.ref a])) rfl (by rw [hml]; rfl) (rest := []) rfl (hb hbytes d1) (W := 0) (by show 2 * 0 + 0 ≤ _; decide) (Nat.le_of_ble_eq_true rfl) (Nat.le_of_ble_eq_true rfl)
  have hh3 := q3.trans hh0
  have c4 : Steps p.tables e below (s₁.setTop (entryFrame m #[.ref a, .ref b, .int (Int32.ofNat o), .int (Int32.ofNat len), .null] 6)) (T3.setTop (mkF m 27 #[.val (.ref a), .val (.ref b), .val (.int (Int32.ofNat o)), .val (.int (Int32.ofNat len)), .val .null, .unset] [])) := (c2.trans (st3 _ (Steps.refl _))).trans (by
    refine XS.iloadN X3.here hexec rfl (hb hbytes d4) rfl ?_
    refine XS.ifYes X3.here hexec rfl (pc0 := 5) rfl (hb hbytes d5) rfl (i0_ne_t (nz32 (by omega) l0)) (by decide) rfl ?_
    exact Steps.refl _)
  obtain ⟨T5, X5, q5, st5⟩ := X3.sget hexec hown (wk W (.fieldLink "java/lang/String" 38 "java/lang/String" "COMPACT_STRINGS" "Z")) s1 (fun _ _ h => by rw [hh3]; exact h) (g := (mkF m 27 #[.val (.ref a), .val (.ref b), .val (.int (Int32.ofNat o)), .val (.int (Int32.ofNat len)), .val .null, .unset] [])) rfl (hb hbytes d27)
  have hh5 := q5.trans hh3
  have c6 : Steps p.tables e below (s₁.setTop (entryFrame m #[.ref a, .ref b, .int (Int32.ofNat o), .int (Int32.ofNat len), .null] 6)) (T5.setTop (mkF m 30 #[.val (.ref a), .val (.ref b), .val (.int (Int32.ofNat o)), .val (.int (Int32.ofNat len)), .val .null, .unset] [.int z])) := c4.trans (st5 _ (Steps.refl _))
  have c7 : Steps p.tables e below (s₁.setTop (entryFrame m #[.ref a, .ref b, .int (Int32.ofNat o), .int (Int32.ofNat len), .null] 6)) (T5.setTop (mkF m 36 #[.val (.ref a), .val (.ref b), .val (.int (Int32.ofNat o)), .val (.int (Int32.ofNat len)), .val .null, .unset] [.int (Int32.ofNat len), .int (Int32.ofNat o), .ref b])) := c6.trans (by
    refine XS.ifNo X5.here hexec rfl (hb hbytes d30) rfl (i0_eq_f hz) ?_
    refine XS.aloadN X5.here hexec rfl (hb hbytes d33) rfl rfl ?_
    refine XS.iloadN X5.here hexec rfl (hb hbytes d34) rfl ?_
    refine XS.iloadN X5.here hexec rfl (hb hbytes d35) rfl ?_
    exact Steps.refl _)
  obtain ⟨v8, T8, X8, E8, g8⟩ := X5.callS hexec (Cmp3.law l b A o len) hown (wks W (staticW "java/lang/String" 177 Cmp3.yN)) (wk W Cmp3.tab) (W := 0) (Nat.le_of_ble_eq_true rfl) (Nat.le_of_ble_eq_true rfl) (Nat.le_refl _) (by show 0 + len ≤ len; omega) (g := (mkF m 36 #[.val (.ref a), .val (.ref b), .val (.int (Int32.ofNat o)), .val (.int (Int32.ofNat len)), .val .null, .unset] [.int (Int32.ofNat len), .int (Int32.ofNat o), .ref b])) rfl (by rw [hml]; rfl) c7 (argsL := [.ref b, .int (Int32.ofNat o), .int (Int32.ofNat len)]) (rest := []) rfl rfl (by show 2 * 0 + 0 ≤ _; decide) (hb hbytes d36) (⟨rfl, hA.mv X5.warmed.alike hh5, l1, l2, hp⟩)
  obtain ⟨e8, z8⟩ := E8
  obtain ⟨rfl, N, n1, n2, n3, n4, n5, n6⟩ := NewArr.mv _ T5 s _ _ hh5.symm (Vm.Alike.refl _) rfl e8
  rw [hh5] at z8
  have hB1 := hB.keep X8.warmed.alike (n6 _ _ hB.1)
  have hne : s.heap.size ≠ a := (Nat.ne_of_lt (Array.getElem?_eq_some_iff.mp hB.1).1).symm
  have c9 : Steps p.tables e below (s₁.setTop (entryFrame m #[.ref a, .ref b, .int (Int32.ofNat o), .int (Int32.ofNat len), .null] 6)) (T8.setTop (mkF m 39 #[.val (.ref a), .val (.ref b), .val (.int (Int32.ofNat o)), .val (.int (Int32.ofNat len)), .val .null, .unset] [.ref s.heap.size])) := g8
  have c10 : Steps p.tables e below (s₁.setTop (entryFrame m #[.ref a, .ref b, .int (Int32.ofNat o), .int (Int32.ofNat len), .null] 6)) (T8.setTop (mkF m 45 #[.val (.ref a), .val (.ref b), .val (.int (Int32.ofNat o)), .val (.int (Int32.ofNat len)), .val .null, .val (.ref s.heap.size)] [.int (Int32.ofNat N.slots.size), .ref s.heap.size, .ref a])) := by
    have hc : Steps p.tables e below (s₁.setTop (entryFrame m #[.ref a, .ref b, .int (Int32.ofNat o), .int (Int32.ofNat len), .null] 6)) (T8.setTop (mkF m 45 #[.val (.ref a), .val (.ref b), .val (.int (Int32.ofNat o)), .val (.int (Int32.ofNat len)), .val .null, .val (.ref s.heap.size)] [.int (Int32.ofNat len), .ref s.heap.size, .ref a])) := c9.trans (by
      refine XS.astore X8.here hexec rfl (hb hbytes d39) rfl rfl rfl ?_
      refine XS.aloadN X8.here hexec rfl (hb hbytes d41) rfl rfl ?_
      refine XS.aload X8.here hexec rfl (hb hbytes d42) rfl rfl ?_
      refine XS.iloadN X8.here hexec rfl (hb hbytes d44) rfl ?_
      exact Steps.refl _)
    rw [n4]; exact hc
  obtain ⟨v11, T11, X11, E11, g11⟩ := X8.callS hexec (CodL.law l s.heap.size N) hown (wks W (staticW "java/lang/String" 47 CodL.yN)) (wk W CodL.tab) (W := 1) (Nat.le_of_ble_eq_true rfl) (Nat.le_of_ble_eq_true rfl) (Nat.le_refl _) (by show 0 + len + 0 ≤ len; omega) (g := (mkF m 45 #[.val (.ref a), .val (.ref b), .val (.int (Int32.ofNat o)), .val (.int (Int32.ofNat len)), .val .null, .val (.ref s.heap.size)] [.int (Int32.ofNat N.slots.size), .ref s.heap.size, .ref a])) rfl (by rw [hml]; rfl) c10 (argsL := [.ref s.heap.size, .int (Int32.ofNat N.slots.size)]) (rest := [.ref a]) rfl rfl (by show 2 * 0 + (1 + 0) ≤ _; decide) (hb hbytes d45) (⟨rfl, n1⟩)
  obtain ⟨rfl, q11⟩ := E11
  have hB11 := hB1.mv (X8.warmed.alike.symm.trans X11.warmed.alike) q11
  have c12 : Steps p.tables e below (s₁.setTop (entryFrame m #[.ref a, .ref b, .int (Int32.ofNat o), .int (Int32.ofNat len), .null] 6)) (T11.setTop (mkF m 48 #[.val (.ref a), .val (.ref b), .val (.int (Int32.ofNat o)), .val (.int (Int32.ofNat len)), .val .null, .val (.ref s.heap.size)] [.int 0, .ref a])) := g11
  obtain ⟨T13, X13, p13, bl13, sl13, st13⟩ := X11.finit hexec hown (wk W (.fieldLink "java/lang/String" 15 "java/lang/String" "coder" "B")) (Or.inr ⟨_, (wk W (.laysFinal "java/lang/String" "java/lang/String" "coder" "B"))⟩) (Or.inl ⟨rfl, hnm⟩) f2 (Or.inl rfl) hB11 (t := .byte) (by decide +kernel) rfl (g := (mkF m 48 #[.val (.ref a), .val (.ref b), .val (.int (Int32.ofNat o)), .val (.int (Int32.ofNat len)), .val .null, .val (.ref s.heap.size)] [.int 0, .ref a])) rfl (rest := []) rfl (hb hbytes d48)
  have c14 : Steps p.tables e below (s₁.setTop (entryFrame m #[.ref a, .ref b, .int (Int32.ofNat o), .int (Int32.ofNat len), .null] 6)) (T13.setTop (mkF m 54 #[.val (.ref a), .val (.ref b), .val (.int (Int32.ofNat o)), .val (.int (Int32.ofNat len)), .val .null, .val (.ref s.heap.size)] [.ref s.heap.size, .ref a])) := (c12.trans (st13 _ (Steps.refl _))).trans (by
    refine XS.aloadN X13.here hexec rfl (hb hbytes d51) rfl rfl ?_
    refine XS.aload X13.here hexec rfl (hb hbytes d52) rfl rfl ?_
    exact Steps.refl _)
  obtain ⟨T15, X15, p15, bl15, sl15, st15⟩ := X13.finit hexec hown (wk W (.fieldLink "java/lang/String" 9 "java/lang/String" "value" "[B")) (Or.inr ⟨_, (wk W (.laysFinal "java/lang/String" "java/lang/String" "value" "[B"))⟩) (Or.inl ⟨rfl, hnm⟩) f1 (Or.inl rfl) bl13 (t := (.array .byte)) (by decide +kernel) rfl (g := (mkF m 54 #[.val (.ref a), .val (.ref b), .val (.int (Int32.ofNat o)), .val (.int (Int32.ofNat len)), .val .null, .val (.ref s.heap.size)] [.ref s.heap.size, .ref a])) rfl (rest := []) rfl (hb hbytes d54)
  have c16 : Steps p.tables e below (s₁.setTop (entryFrame m #[.ref a, .ref b, .int (Int32.ofNat o), .int (Int32.ofNat len), .null] 6)) (T15.setTop (mkF m 57 #[.val (.ref a), .val (.ref b), .val (.int (Int32.ofNat o)), .val (.int (Int32.ofNat len)), .val .null, .val (.ref s.heap.size)] [])) := c14.trans (st15 _ (Steps.refl _))
  have ap := apart (Or.inr ⟨_, (wk W (.laysFinal "java/lang/String" "java/lang/String" "value" "[B"))⟩) (Or.inr ⟨_, (wk W (.laysFinal "java/lang/String" "java/lang/String" "coder" "B"))⟩) f1 f2 (t₁ := .array .byte) (t₂ := .byte) (by decide +kernel) (by decide +kernel) (by decide)
  have al := X8.warmed.alike.symm.trans X15.warmed.alike
  have n7 : T11.heap[s.heap.size]? = some N := by rw [q11]; exact n1.1
  exact ⟨T15, none, _, _, _, X15, by simp, rfl, by omega, (fun _ => rfl), ⟨rfl, _, N, bl15, ((Same.refl D _).set _ (by simp)).set _ (by simp), sl15, (Cell.slots_setSlot_ne _ ap).trans sl13, n1.keep al (p15.other hne (p13.other hne n7)), n2, by rw [al.findClass]; exact n3, n4, n5, fun y c h1 h2 => p15.other h1 (p13.other h1 (by rw [q11]; exact n6 y c h2)), by rw [p15.2.2, p13.2.2, q11]; exact z8⟩, fun fs hl => c16.trans (X15.returnOut hexec hret (hb hbytes d57) hl)⟩
end New4
namespace New1
def yN : MethodName := ⟨"java/lang/String", "<init>", "([C)V"⟩
abbrev yB : ByteArray := jdk_42_method_3_code
theorem d0 : decode yB 0 = .ok (.aload_n 0, 1) := by decide +kernel
theorem d1 : decode yB 1 = .ok (.aload_n 1, 1) := by decide +kernel
theorem d2 : decode yB 2 = .ok (.iconst 0, 1) := by decide +kernel
theorem d3 : decode yB 3 = .ok (.aload_n 1, 1) := by decide +kernel
theorem d4 : decode yB 4 = .ok (.arraylength, 1) := by decide +kernel
theorem d5 : decode yB 5 = .ok (.aconst_null, 1) := by decide +kernel
theorem d6 : decode yB 6 = .ok (.invokespecial 27, 3) := by decide +kernel
theorem d9 : decode yB 9 = .ok (.return_, 1) := by decide +kernel
def site : List Cond := [New4.tab] ++ initW "java/lang/String" 27 New4.yN
def tab : Cond := tabOf yN yB 2 none site
def P (a : Addr) (D : Cell) (fV fC : Field) (b : Addr) (A : Cell) (z : Int32) (args : Array Value) (s : State) : Prop := args = #[.ref a, .ref b] ∧ Blank "java/lang/String" a D s ∧ Found "java/lang/String" "value" "[B" fV s ∧ Found "java/lang/String" "coder" "B" fC s ∧ Ch b A s ∧ StaticIs s "java/lang/String" "COMPACT_STRINGS" "Z" (.int z) ∧ ¬ z = 0 ∧ 0 < A.slots.size ∧ A.slots.size ≤ 536870912 ∧ ∀ i, i < A.slots.size → ¬ 255 < cv A i
def E (a : Addr) (D : Cell) (fV fC : Field) (A : Cell) (r : Option Value) (s u : State) : Prop := Got a D fV fC A 0 A.slots.size r s u
/-- new String(chars), not empty, no char above 255: a Latin-1 String of their low bytes -/
theorem law (l : Launch) (a : Addr) (D : Cell) (fV fC : Field) (b : Addr) (A : Cell) (z : Int32) : Law l yN 2 1 3 52 yB 2 none site (P a D fV fC b A z) (E a D fV fC A) [⟨a, fC.slot⟩, ⟨a, fV.slot⟩] 1 A.slots.size := by
  refine Law.of_walk (plainFor_of_name (by decide +kernel)) (by decide +kernel) (by decide +kernel) (by decide) (fun _ _ h => by rw [h.1]; rfl) (fun _ U U' hal hh h => ⟨h.1, h.2.1.mv hal hh, h.2.2.1.al hal, h.2.2.2.1.al hal, h.2.2.2.2.1.mv hal hh, h.2.2.2.2.2.1.there hal hh, h.2.2.2.2.2.2⟩) (fun r U U' V V' h1 hal h2 h => Got.mv r U U' V V' h1 hal h2 h) ?_
  intro p e s m args below meth c s₁ X0 hexec hbytes hml hret hlk hnm hown hh0 W hP
  obtain ⟨rfl, hB, f1, f2, hA, s1, hz, l0, l2, hp⟩ := hP
  have c1 : Steps p.tables e below (s₁.setTop (entryFrame m #[.ref a, .ref b] 2)) (s₁.setTop (mkF m 0 #[.val (.ref a), .val (.ref b)] [])) := entry rfl
  have c2 : Steps p.tables e below (s₁.setTop (entryFrame m #[.ref a, .ref b] 2)) (s₁.setTop (mkF m 6 #[.val (.ref a), .val (.ref b)] [.null, .int (Int32.ofNat A.slots.size), .int 0, .ref b, .ref a])) := c1.trans (by
    refine XS.aloadN X0.here hexec rfl (hb hbytes d0) rfl rfl ?_
    refine XS.aloadN X0.here hexec rfl (hb hbytes d1) rfl rfl ?_
    refine iconstV X0.here hexec rfl 0 (hb hbytes d2) (by decide) ?_
    refine XS.aloadN X0.here hexec rfl (hb hbytes d3) rfl rfl ?_
    refine X0.alen hexec (hA.1.mv X0.warmed.alike hh0) rfl rfl (hb hbytes d4) ?_
    refine XS.aconstNull X0.here hexec rfl (hb hbytes d5) ?_
    exact Steps.refl _)
  obtain ⟨v3, T3, X3, E3, g3⟩ := X0.callN hexec (New4.law l a D fV fC b A z 0 A.slots.size) rfl hown (wks W (initW "java/lang/String" 27 New4.yN)) (W New4.tab (by simp only [site, List.mem_cons, List.mem_append, true_or, or_true])) (W := 0) (Nat.le_of_ble_eq_true rfl) (Nat.le_of_ble_eq_true rfl) (Nat.le_refl _) (by show 0 + A.slots.size ≤ A.slots.size; omega) (g := (mkF m 6 #[.val (.ref a), .val (.ref b)] [.null, .int (Int32.ofNat A.slots.size), .int (Int32.ofNat 0), .ref b, .ref a])) rfl (by rw [hml]; rfl) c2 (argsL := [.ref b, .int (Int32.ofNat 0), .int (Int32.ofNat A.slots.size), .null]) (rest := []) rfl rfl (by show 2 * 0 + 0 ≤ _; decide) (hb hbytes d6) (⟨rfl, hB.mv X0.warmed.alike hh0, f1.al X0.warmed.alike, f2.al X0.warmed.alike, hA.mv X0.warmed.alike hh0, s1.there X0.warmed.alike hh0, hz, l0, by omega, l2, fun i hi => by rw [Nat.zero_add]; exact hp i hi⟩)
  have e0 := Got.mv _ s₁ s _ _ hh0.symm (Vm.Alike.refl _) rfl E3
  obtain rfl := e0.1
  have c4 : Steps p.tables e below (s₁.setTop (entryFrame m #[.ref a, .ref b] 2)) (T3.setTop (mkF m 9 #[.val (.ref a), .val (.ref b)] [])) := g3
  exact ⟨T3, none, _, _, _, X3, by simp, rfl, by omega, (fun _ => rfl), e0, fun fs hl => c4.trans (X3.returnOut hexec hret (hb hbytes d9) hl)⟩
theorem pays {l : Launch} {R : Room} {p : Program} {e : Env} {below : List Frame} {s : State} {sargs : Array Value} {len W : Nat} (a : Addr) (D : Cell) (fV fC : Field) (b : Addr) (A : Cell) (z : Int32) (htab : tab.before sargs s = true) (hfr : 4 ≤ R.frames) (hlo : W + 65 ≤ R.locals) :
    Back l R p e below s sargs yN len W (fun A₁ a₁ => A₁.cells + 1 ≤ R.cells ∧ A₁.slots + A.slots.size ≤ R.slots ∧ P a D fV fC b A z a₁ A₁.U) (fun A₁ _ v₁ B₁ => E a D fV fC A v₁ A₁.U B₁.U ∧ B₁.locs = A₁.locs ++ [⟨a, fC.slot⟩, ⟨a, fV.slot⟩] ∧ B₁.cells = A₁.cells + 1 ∧ B₁.slots = A₁.slots + A.slots.size) :=
  (law l a D fV fC b A z).pays htab hfr (by omega)
end New1
end StrChars
namespace StrChars.Road
open Jvm Sem ClassFile Op Lib Jvm.Stand Jvm.Free Jvm.Free.XT
open Jvm.Lib.Cold (StaticIs)
abbrev ST : String := "java/lang/String"
/-- every table word that New1's law asks, flat -/
abbrev words : List Jvm.Cond := [.code New1.yN New1.yB 2 none, .initialized ST, .methodLink ST 27 New4.yN, .instanceMethod New4.yN,
  .code New4.yN New4.yB 6 none, .fieldLink ST 38 ST "COMPACT_STRINGS" "Z", .laysFinal ST ST "value" "[B", .fieldLink ST 9 ST "value" "[B", .laysFinal ST ST "coder" "B", .fieldLink ST 15 ST "coder" "B",
  .methodLink ST 1 Lib.objectInit, .instanceMethod Lib.objectInit, .code Lib.objectInit ⟨#[0xb1]⟩ 1 none, .methodLink ST 177 Cmp3.yN, .static Cmp3.yN, .methodLink ST 47 CodL.yN, .static CodL.yN,
  .code Cmp3.yN Cmp3.yB 6 (some (.array .byte)), .initialized U16, .arrayClass .byte, .methodLink U16 115 Cmp5.yN, .static Cmp5.yN, .code Cmp5.yN Cmp5.yB 7 (some .int), .code CodL.yN CodL.yB 2 (some .byte)]
theorem tab_of {a : Array Value} {s : State} (h : ∀ w ∈ words, w.before a s = true) : New1.tab.before a s = true := by
  have h5 : Cmp5.tab.before a s = true := unparts (wk h (.code Cmp5.yN Cmp5.yB 7 (some .int))) (wks h (.initialized Cmp5.yN.cls :: Cmp5.site))
  have hc : CodL.tab.before a s = true := unparts (wk h (.code CodL.yN CodL.yB 2 (some .byte))) (wks h (.initialized CodL.yN.cls :: CodL.site))
  have q5 : ∀ w ∈ Cmp5.tab :: words, w.before a s = true := fun w hw => (List.mem_cons.mp hw).elim (fun e => e ▸ h5) (h w)
  have h3 : Cmp3.tab.before a s = true := unparts (wk q5 (.code Cmp3.yN Cmp3.yB 6 (some (.array .byte)))) (wks q5 (.initialized Cmp3.yN.cls :: Cmp3.site))
  have q3 : ∀ w ∈ Cmp3.tab :: CodL.tab :: words, w.before a s = true := fun w hw => (List.mem_cons.mp hw).elim (fun e => e ▸ h3) fun hw => (List.mem_cons.mp hw).elim (fun e => e ▸ hc) (h w)
  have h4 : New4.tab.before a s = true := unparts (wk q3 (.code New4.yN New4.yB 6 none)) (wks q3 (.initialized New4.yN.cls :: New4.site))
  have q4 : ∀ w ∈ New4.tab :: words, w.before a s = true := fun w hw => (List.mem_cons.mp hw).elim (fun e => e ▸ h4) (h w)
  exact unparts (wk q4 (.code New1.yN New1.yB 2 none)) (wks q4 (.initialized New1.yN.cls :: New1.site))
/-- the words ride from the start Z to the walk's own state -/
theorem moved {Z s : State} {a0 args : Array Value} (hZ : Z.Warmed39 s.vm) (hw : ∀ d ∈ words, d.before a0 Z = true) : ∀ d ∈ words, d.before args s = true := fun d hd => by
  have q := hw d hd
  have t : ∀ d ∈ words, d = .arrayClass .byte ∨ (d.onTables && d.keepsFace) = true := by decide +kernel
  rcases t d hd with rfl | t
  · exact RoadKit.mvA hZ q
  · exact RoadKit.mv hZ q t
/-- WHAT COMES BACK, over the tables of the start Z: h the heap at the call, h' behind it -/
def Q (Z : State) (x : Addr) (A : Cell) (h : Heap) (v : Option Value) (h' : Heap) (L : List Loc) : Prop := v = none ∧ (∀ y ∈ L, y.base = x) ∧ RoadKit.Keep h h' [x] ∧ h'.size = h.size + 1 ∧ RoadKit.Exa Z h' x ST ∧ RoadKit.Fld Z h' x ST "value" "[B" (.ref h.size) ∧ RoadKit.Fld Z h' x ST "coder" "B" (.int 0) ∧
  (∃ V : Cell, RoadKit.Arr Z h' h.size V .byte ∧ V.vm = .none ∧ Z.vm.findClass "[B" = some V.cls ∧ V.slots.size = A.slots.size ∧ ∀ j, j < A.slots.size → V.slots[j]? = some (.int (lo8 (cv A j)))) ∧
  ∀ (O n d : String) (w : Value), RoadKit.Fld Z h x O n d w → RoadKit.slotOf Z O n d ≠ RoadKit.slotOf Z ST "value" "[B" → RoadKit.slotOf Z O n d ≠ RoadKit.slotOf Z ST "coder" "B" → RoadKit.Fld Z h' x O n d w
/-- **new String(chars) AT A CALL, IN THE ROAD'S FORM**: for specialBack behind newO: x the fresh String, b the char[] with the cell A -/
theorem back {p : Program} {l : Launch} {e : Env} {R : Room} {s : State} {args : Array Value} {below : List Frame} {len W : Nat} {Z : State} {a0 : Array Value} {h : Heap} (hZ : Z.Warmed39 s.vm) (hw : ∀ d ∈ words, d.before a0 Z = true) {kI : Nat} (wi : (Jvm.Cond.instantiable ST kI).before a0 Z = true)
    {x b : Addr} {A : Cell} {z : Int32} {v0 c0 : Value} (E : RoadKit.Exa Z h x ST) (V : RoadKit.Fld Z h x ST "value" "[B" v0) (C : RoadKit.Fld Z h x ST "coder" "B" c0) (K : RoadKit.Arr Z h b A .char) (hty : Typed .char A) (S : RoadKit.Sta Z h ST "COMPACT_STRINGS" "Z" (.int z)) (hz : ¬ z = 0)
    (l0 : 0 < A.slots.size) (l2 : A.slots.size ≤ 536870912) (hp : ∀ i, i < A.slots.size → ¬ 255 < cv A i) (hfr : 4 ≤ R.frames) (hlo : W + 65 ≤ R.locals) :
    Back l R p e below s args New1.yN len W (fun P a => a = #[.ref x, .ref b] ∧ P.U.heap = h ∧ P.cells + 1 ≤ R.cells ∧ P.slots + A.slots.size ≤ R.slots)
      (fun P _ v B => ∃ L, Q Z x A h v B.U.heap L ∧ B.locs = P.locs ++ L ∧ B.cells = P.cells + 1 ∧ B.slots = P.slots + A.slots.size) := by
  intro m meth c P g ig mk a X hg hsize hdg hW hn hp'
  obtain ⟨rfl, rfl, r1, r2⟩ := hp'
  have al : Z.vm.Alike P.U.vm := hZ.alike.trans X.warmed.alike
  obtain ⟨D, cfV, kV, iV, fV, hD, gV, stV, knV, obV, asV, slV⟩ := id V
  obtain ⟨D', cfC, kC, iC, fC, hD', gC, stC, -, -, asC, slC⟩ := id C
  cases hD.symm.trans hD'
  obtain ⟨D2, kD, e1, e2, e3, e4, e5⟩ := id E
  cases hD.symm.trans e1
  obtain ⟨c2, k2, i1, i2, i3, -⟩ := Cond.instantiable_spec wi
  cases e2.symm.trans i1
  cases e3.symm.trans i2
  obtain ⟨kU, u1, u2⟩ := al.2.2 _ _ e3
  have hB : Blank ST x D P.U := ⟨hD, ⟨knV, fun q hq => by rw [hq] at obV; cases obV⟩, by rw [al.findClass]; exact e2, kU, u1, by rw [u2]; exact i3, by rw [u2]; exact e5 i3⟩
  have F1 : Found ST "value" "[B" fV P.U := ⟨SBG.found_only al ⟨cfV, kV, iV, gV⟩, stV⟩
  have F2 : Found ST "coder" "B" fC P.U := ⟨SBG.found_only al ⟨cfC, kC, iC, gC⟩, stC⟩
  have hA : Ch b A P.U := ⟨⟨K.1, State.isArrayOf_alike al K.2.1, K.2.2, by omega⟩, hty⟩
  have hS : StaticIs P.U ST "COMPACT_STRINGS" "Z" (.int z) := by
    obtain ⟨cfS, iS, kS, fS, st, cS, t1, t2, t3, t4, t5, t6, t7⟩ := S
    exact StaticIs.there (s := { Z with heap := P.U.heap }) ⟨cfS, iS, kS, fS, st, cS, t1, t2, t3, t4, t5, (fun q => by rw [q] at t6; cases t6), t7⟩ al rfl
  obtain ⟨v, B, X', ⟨⟨hv, E', V', q1, q2, q3, q4, q5, q6, q7, q8, q9, q10, q11⟩, hl, hc, hs⟩, st⟩ := New1.pays x D fV fC b A z (tab_of (moved hZ hw)) hfr hlo m meth c P g ig mk _ X hg hsize hdg hW hn ⟨r1, r2, rfl, hB, F1, F2, hA, hS, hz, l0, l2, hp⟩
  have al' : Z.vm.Alike B.U.vm := hZ.alike.trans X'.warmed.alike
  have hsz : E'.slots.size = D.slots.size := by
    obtain ⟨-, -, -, kB, w1, w2, w3⟩ := q1
    obtain ⟨kB', y1, y2⟩ := al'.2.2 _ _ e3
    rw [q2.2.1] at w1
    cases w1.symm.trans y1
    rw [w3, e5 i3, y2]
  refine ⟨v, B, X', ⟨_, ⟨hv, ?_, ⟨by omega, fun y cy hy hn' => q10 y cy (by simpa using hn') hy, fun y cy hy => ?_⟩, q11, ⟨E', _, q1.1, by rw [q2.2.1]; exact e2, by rw [q2.2.1]; exact e3, by rw [q2.1]; exact obV, fun _ => by rw [hsz]; exact e5 i3⟩,
    ⟨E', cfV, kV, iV, fV, q1.1, gV, stV, by rw [q2.1]; exact knV, by rw [q2.1]; exact obV, by rw [q2.2.1]; exact asV, q3⟩, ⟨E', cfC, kC, iC, fC, q1.1, gC, stC, by rw [q2.1]; exact knV, by rw [q2.1]; exact obV, by rw [q2.2.1]; exact asC, q4⟩,
    ⟨V', ⟨q5.1, State.isArrayOf_alike al'.symm q5.2.1, q5.2.2.1⟩, q6, by rw [← al'.findClass]; exact q7, q8, fun j hj => by have := q9 j hj; rwa [Nat.zero_add] at this⟩, fun O n d w F n1 n2 => ?_⟩, hl, hc, hs⟩, st⟩
  · intro y hy
    simp only [List.mem_cons, List.not_mem_nil, or_false] at hy
    rcases hy with rfl | rfl <;> rfl
  · by_cases q : y = x
    · subst q
      cases hD.symm.trans hy
      exact ⟨E', q1.1, q2.2.1, q2.1, hsz⟩
    · exact ⟨cy, q10 y cy q hy, rfl, rfl, rfl⟩
  · obtain ⟨D3, cf, k, i, f, g1, g2, g3, g4, g5, g6, g7⟩ := F
    cases hD.symm.trans g1
    simp only [RoadKit.slotOf, g2, gV, gC, Option.map_some, Option.getD_some] at n1 n2
    exact ⟨E', cf, k, i, f, q1.1, g2, g3, by rw [q2.1]; exact g4, by rw [q2.1]; exact g5, by rw [q2.2.1]; exact g6, by rw [q2.2.2 f.slot (by simp [n1, n2])]; exact g7⟩
end StrChars.Road
namespace StrChars.Road
open Jvm Sem ClassFile Op Lib Jvm.Stand Jvm.Free Jvm.Free.XT
/-- WHAT COMES BACK, the byte[] as a list of values -/
def QA (Z : State) (x : Addr) (zn : Int32) (cs : List Int32) (h : Heap) (v : Option Value) (h' : Heap) (L : List Loc) : Prop := v = none ∧ (∀ y ∈ L, y.base = x) ∧ RoadKit.Keep h h' [x] ∧ h'.size = h.size + 1 ∧ RoadKit.Exa Z h' x ST ∧ RoadKit.Fld Z h' x ST "value" "[B" (.ref h.size) ∧ RoadKit.Fld Z h' x ST "coder" "B" (.int 0) ∧
  (∃ kb, Z.vm.findClass "[B" = some kb ∧ RoadKit.Arv Z h' h.size kb .byte zn (cs.map fun c => .int (lo8 c)) (.int 0)) ∧
  ∀ (O n d : String) (w : Value), RoadKit.Fld Z h x O n d w → RoadKit.slotOf Z O n d ≠ RoadKit.slotOf Z ST "value" "[B" → RoadKit.slotOf Z O n d ≠ RoadKit.slotOf Z ST "coder" "B" → RoadKit.Fld Z h' x O n d w
/-- **new String(chars) AT A CALL, THE ARRAYS AS LISTS**: the char[] at b holds cs, not empty, no char above 255 -/
theorem backArv {p : Program} {l : Launch} {e : Env} {R : Room} {s : State} {args : Array Value} {below : List Frame} {len W : Nat} {Z : State} {a0 : Array Value} {h : Heap} (hZ : Z.Warmed39 s.vm) (hw : ∀ d ∈ words, d.before a0 Z = true) {kI : Nat} (wi : (Jvm.Cond.instantiable ST kI).before a0 Z = true)
    {x b : Addr} {k : ClassId} {zn z : Int32} {cs : List Int32} {dv v0 c0 : Value} (E : RoadKit.Exa Z h x ST) (V : RoadKit.Fld Z h x ST "value" "[B" v0) (C : RoadKit.Fld Z h x ST "coder" "B" c0) (K : RoadKit.Arv Z h b k .char zn (cs.map Value.int) dv) (S : RoadKit.Sta Z h ST "COMPACT_STRINGS" "Z" (.int z)) (hz : ¬ z = 0)
    (hlen : zn.toNatClampNeg = cs.length) (h0 : 0 < cs.length) (hbig : cs.length ≤ 536870912) (hall : ∀ c ∈ cs, ¬ 255 < c) (hfr : 4 ≤ R.frames) (hlo : W + 65 ≤ R.locals) :
    Back l R p e below s args New1.yN len W (fun P a => a = #[.ref x, .ref b] ∧ P.U.heap = h ∧ P.cells + 1 ≤ R.cells ∧ P.slots + cs.length ≤ R.slots)
      (fun P _ v B => ∃ L, QA Z x zn cs h v B.U.heap L ∧ B.locs = P.locs ++ L ∧ B.cells = P.cells + 1 ∧ B.slots = P.slots + cs.length) := by
  obtain ⟨A, K1, K2, K3, K4, K5, K6⟩ := K
  have e : A.slots.size = cs.length := K3.trans hlen
  have hat : ∀ (i : Nat) (hi : i < cs.length), A.slots[i]? = some (.int cs[i]) := fun i hi => by rw [K5 i (by omega)]; simp [List.getD_eq_getElem?_getD, hi]
  have hcv : ∀ (i : Nat) (hi : i < cs.length), cv A i = cs[i] := fun i hi => by unfold cv; rw [hat i hi]
  have hty : Typed .char A := fun i v hv => by
    have hi : i < A.slots.size := (Array.getElem?_eq_some_iff.mp hv).1
    have q := K5 i hi
    rw [hv] at q
    rw [Option.some.inj q]
    exact K6 i hi
  refine Back.mono (back hZ hw wi E V C K1 hty S hz (by omega) (by omega) (fun i hi => by rw [hcv i (by omega)]; exact hall _ (List.getElem_mem _)) hfr hlo) (fun P a hp => ⟨hp.1, hp.2.1, hp.2.2.1, by rw [e]; exact hp.2.2.2⟩) (fun P a v B hp hq => ?_)
  obtain ⟨L, ⟨q1, q2, q3, q4, q5, q6, q7, ⟨V', v1, v2, v3, v4, v5⟩, q9⟩, hl, hc, hs⟩ := hq
  refine ⟨L, ⟨q1, q2, q3, q4, q5, q6, q7, ⟨V'.cls, v3, V', v1, rfl, by rw [v4, e, hlen], K4, fun i hi => ?_, fun i hi => ?_⟩, q9⟩, hl, hc, by rw [hs, e]⟩
  · have hi' : i < cs.length := by omega
    rw [v5 i (by omega), hcv i hi']; simp [List.getD_eq_getElem?_getD, hi']
  · have hi' : i < cs.length := by omega
    simp only [List.getD_eq_getElem?_getD, List.getElem?_map, List.getElem?_eq_getElem hi', Option.map_some, Option.getD_some]
    exact fits_lo8 _
end StrChars.Road
namespace StrChars.Road
open Jvm Sem ClassFile Op Lib Jvm.Stand Jvm.Free Jvm.Free.XT
/-- WHAT COMES BACK, in the writer's own shape -/
def QV (Z : State) (x : Addr) (N : Int32) (bs : List Int32) (h : Heap) (n0 : Nat) (v : Option Value) (h' : Heap) (L : List Loc) : Prop := v = none ∧ RoadKit.Fr n0 L ∧ RoadKit.Keep h h' [x] ∧ RoadKit.Exa Z h' x ST ∧ RoadKit.Fld Z h' x ST "coder" "B" (.int 0) ∧
  ∃ (t : Addr) (kb : ClassId), n0 ≤ t ∧ h.size ≤ t ∧ ¬ t = x ∧ RoadKit.Fld Z h' x ST "value" "[B" (.ref t) ∧ RoadKit.Arv Z h' t kb .byte N (bs.map Value.int) (.int 0)
/-- **new String(chars) AT A CALL, FOR THE WRITER**: a char[] of n known ints, each 0 to 255 -/
theorem backV {p : Program} {l : Launch} {e : Env} {R : Room} {s : State} {args : Array Value} {below : List Frame} {len W : Nat} {Z : State} {a0 : Array Value} {h : Heap} (hZ : Z.Warmed39 s.vm) (hw : ∀ d ∈ words, d.before a0 Z = true) {kI : Nat} (wi : (Jvm.Cond.instantiable ST kI).before a0 Z = true)
    {x b : Addr} {kC : ClassId} {cs bs : List Int32} {d v0 c0 : Value} {z N : Int32} {n n0 : Nat} (hx0 : n0 ≤ x) (hh0 : n0 ≤ h.size) (E : RoadKit.Exa Z h x ST) (V : RoadKit.Fld Z h x ST "value" "[B" v0) (C : RoadKit.Fld Z h x ST "coder" "B" c0) (K : RoadKit.Arv Z h b kC .char N (cs.map Value.int) d) (S : RoadKit.Sta Z h ST "COMPACT_STRINGS" "Z" (.int z)) (hz : ¬ z = 0)
    (hn : cs.length = n) (hN : N = Int32.ofNat n) (l0 : 0 < n) (l2 : n ≤ 4000) (hp : ∀ c ∈ cs, ¬ c < 0 ∧ ¬ (255 : Int32) < c) (hb : bs = cs.map (fun c => c.toInt8.toInt32)) (hfr : 4 ≤ R.frames) (hlo : W + 65 ≤ R.locals) :
    Back l R p e below s args (⟨"java/lang/String", "<init>", "([C)V"⟩ : MethodName) len W (fun P a => a = #[.ref x, .ref b] ∧ P.U.heap = h ∧ P.cells + 1 ≤ R.cells ∧ P.slots + n ≤ R.slots)
      (fun P _ v B => ∃ L, QV Z x N bs h n0 v B.U.heap L ∧ B.locs = P.locs ++ L ∧ B.cells = P.cells + 1 ∧ B.slots = P.slots + n) := by
  subst hn hN hb
  refine Back.mono (backArv hZ hw wi E V C K S hz (n32 (by omega)) l0 (by omega) (fun c hc => (hp c hc).2) hfr hlo) (fun P a hp => hp) (fun P a v B hp hq => ?_)
  obtain ⟨L, ⟨q1, q2, q3, q4, q5, q6, q7, ⟨kb, v1, v2⟩, q9⟩, hl, hc, hs⟩ := hq
  exact ⟨L, ⟨q1, fun y hy => by rw [q2 y hy]; exact hx0, q3, q5, q7, h.size, kb, hh0, Nat.le_refl _, Nat.ne_of_gt E.lt, q6, by rw [List.map_map]; exact v2⟩, hl, hc, hs⟩
end StrChars.Road
end Jvm.Pilot.@@N@@

namespace Jvm.RoadKit
open Sem ClassFile Op Lib Jvm.Stand Jvm.Free Jvm.LawKit
section New
variable {p : Program} {l : Launch} {e : Env} {R : Room} {s : State} {m : MethodId} {args : Array Value} {below : List Frame} {meth : Method} {c : Code} {T : State} {locs : List Loc} {cells slots : Nat}
theorem retI (X : Stand p l e R s m args below meth c T locs cells slots) (hx : p.tables.exec = Jvm.exec) {pc : Nat} {Ls : Array Slot} {z : Int32} {rest : List Value} (hret : meth.sig.returnType = some .int) (hd : decode c.code pc = .ok (.ireturn, 1)) {fs : List Frame}
    (hl : ∀ (f : JFrame) (acts : List Action), f.method = m → f.locked = none → f.entered = [] → (doReturn e (T.setTop f) acts (some (.int z))).1 = T.setFrames fs) : Steps p.tables e below (T.setTop (mkF m pc Ls (.int z :: rest))) (T.setFrames fs) := by
  have hm' : T.vm.method? m = some meth := X.method'
  have hn : narrow .int (.int z) = .int z := rfl
  show Steps p.tables e below (T.setTop { method := m, pc := pc, locals := Ls, stack := _ :: rest, locked := none }) _
  jvm_step X.here [X.here.top, hx, hd, hm', hret, hn]
  first | (intro acts; rw [hl _ acts rfl rfl rfl]) | rw [hl _ _ rfl rfl rfl]
  exact Steps.refl _
end New
end Jvm.RoadKit
namespace Jvm.Pilot.@@N@@
open Jvm Jvm.ClassFile Sem Op Lib Jvm.Free Jvm.Stand Jvm.LawKit Jvm.RoadKit Bundle Jvm.Pilot.@@N@@.Jvm.D
/-! ## Go: a walk as a proposition, read backwards -/
def Cx (p : Program) (s : State) (m : MethodId) (meth : Method) (c : Code) (Z : State) (own nm : String) (code : ByteArray) (ml : Nat) (ret : Option FieldType) : Prop :=
  p.tables.exec = Jvm.exec ∧ c.code = code ∧ c.maxLocals = ml ∧ s.vm.findClass own = some m.cls ∧ Z.Warmed39 s.vm ∧ meth.name = nm ∧ meth.sig.returnType = ret ∧ meth.locks = false
def Go (p : Program) (l : Launch) (e : Env) (R : Room) (s : State) (m : MethodId) (args : Array Value) (below : List Frame) (meth : Method) (c : Code) (Ph : State → Option Value → Prop) (n0 : Nat) (h : Heap) (k n : Nat) (pc : Nat) (Ls : Array Slot) (st : List Value) : Prop :=
  ∀ T locs, Stand p l e R s m args below meth c T locs k n → Fr n0 locs → T.heap = h → ∃ s₂ v, Steps p.tables e below (T.setTop (mkF m pc Ls st)) s₂ ∧ Ph s₂ v
section GoRules
variable {p : Program} {l : Launch} {e : Env} {R : Room} {s : State} {m : MethodId} {args : Array Value} {below : List Frame} {meth : Method} {c : Code} {Ph : State → Option Value → Prop} {n0 : Nat} {h : Heap} {k n : Nat} {pc q : Nat} {Ls : Array Slot} {st rest : List Value} {Z : State} {a0 : Array Value} {own nm : String} {code : ByteArray} {ml : Nat} {ret : Option FieldType}
theorem Go.pl {pc' : Nat} {Ls' : Array Slot} {st' : List Value} (H : ∀ (T target : State), At T m c below → Steps p.tables e below (T.setTop (mkF m pc' Ls' st')) target → Steps p.tables e below (T.setTop (mkF m pc Ls st)) target) (K : Go p l e R s m args below meth c Ph n0 h k n pc' Ls' st') : Go p l e R s m args below meth c Ph n0 h k n pc Ls st :=
  fun T locs X N eT => by obtain ⟨s₂, v, S, r⟩ := K T locs X N eT; exact ⟨s₂, v, H T s₂ X.here S, r⟩
theorem Go.more {k' n' : Nat} (hk : k ≤ k') (hn : n ≤ n') (K : Go p l e R s m args below meth c Ph n0 h k' n' pc Ls st) : Go p l e R s m args below meth c Ph n0 h k n pc Ls st := fun T locs X N eT => K T locs (X.loosen hk hn) N eT
theorem Go.low {n1 : Nat} (hn : n0 ≤ n1) (K : Go p l e R s m args below meth c Ph n0 h k n pc Ls st) : Go p l e R s m args below meth c Ph n1 h k n pc Ls st := fun T locs X N eT => K T locs X (fun y hy => Nat.le_trans hn (N y hy)) eT
theorem Go.join {pc' : Nat} {Ls' : Array Slot} {st' : List Value} (J : Go p l e R s m args below meth c Ph n0 h k n pc' Ls' st') (K : Go p l e R s m args below meth c Ph n0 h k n pc' Ls' st' → Go p l e R s m args below meth c Ph n0 h k n pc Ls st) : Go p l e R s m args below meth c Ph n0 h k n pc Ls st := K J
theorem Go.joinR {α : Sort _} {pc' : Nat} (P' : α → Prop) (Ls' : α → Array Slot) (st' : α → List Value) (J : ∀ r, P' r → Go p l e R s m args below meth c Ph n0 h k n pc' (Ls' r) (st' r)) (K : (∀ r, P' r → Go p l e R s m args below meth c Ph n0 h k n pc' (Ls' r) (st' r)) → Go p l e R s m args below meth c Ph n0 h k n pc Ls st) : Go p l e R s m args below meth c Ph n0 h k n pc Ls st := K J
theorem Go.cast {pc' : Nat} {Ls' : Array Slot} {st' : List Value} (e1 : pc' = pc) (e2 : Ls' = Ls) (e3 : st' = st) (K : Go p l e R s m args below meth c Ph n0 h k n pc' Ls' st') : Go p l e R s m args below meth c Ph n0 h k n pc Ls st := by subst e1 e2 e3; exact K
theorem g_iloadN (C : Cx p s m meth c Z own nm code ml ret) {i : Fin 4} {v : Int32} (d : decode code pc = .ok (.iload_n i, 1)) (hl : Ls[i.val]? = some (.val (.int v))) (hq : pc + 1 = q) (K : Go p l e R s m args below meth c Ph n0 h k n q Ls (.int v :: st)) : Go p l e R s m args below meth c Ph n0 h k n pc Ls (st) :=
  Go.pl (fun T t A S => XS.iloadN A C.1 rfl (hb C.2.1 d) hl (by subst hq; exact S)) K
theorem g_iload (C : Cx p s m meth c Z own nm code ml ret) {i : Nat} {v : Int32} (d : decode code pc = .ok (.iload i, 2)) (hl : Ls[i]? = some (.val (.int v))) (hq : pc + 2 = q) (K : Go p l e R s m args below meth c Ph n0 h k n q Ls (.int v :: st)) : Go p l e R s m args below meth c Ph n0 h k n pc Ls (st) :=
  Go.pl (fun T t A S => XS.iload A C.1 rfl (hb C.2.1 d) hl (by subst hq; exact S)) K
theorem g_istoreN (C : Cx p s m meth c Z own nm code ml ret) {i : Fin 4} {v : Int32} {L' : Array Slot} (d : decode code pc = .ok (.istore_n i, 1))  (hl : storeLocals Ls i.val (.int v) = some L') (hq : pc + 1 = q) (K : Go p l e R s m args below meth c Ph n0 h k n q L' (st)) : Go p l e R s m args below meth c Ph n0 h k n pc Ls (.int v :: st) :=
  Go.pl (fun T t A S => XS.istoreN A C.1 rfl (hb C.2.1 d) rfl hl (by subst hq; exact S)) K
theorem g_istore (C : Cx p s m meth c Z own nm code ml ret) {i : Nat} {v : Int32} {L' : Array Slot} (d : decode code pc = .ok (.istore i, 2))  (hl : storeLocals Ls i (.int v) = some L') (hq : pc + 2 = q) (K : Go p l e R s m args below meth c Ph n0 h k n q L' (st)) : Go p l e R s m args below meth c Ph n0 h k n pc Ls (.int v :: st) :=
  Go.pl (fun T t A S => XS.istore A C.1 rfl (hb C.2.1 d) rfl hl (by subst hq; exact S)) K
theorem g_lloadN (C : Cx p s m meth c Z own nm code ml ret) {i : Fin 4} {v : Int64} (d : decode code pc = .ok (.lload_n i, 1)) (hl : Ls[i.val]? = some (.val (.long v))) (hq : pc + 1 = q) (K : Go p l e R s m args below meth c Ph n0 h k n q Ls (.long v :: st)) : Go p l e R s m args below meth c Ph n0 h k n pc Ls (st) :=
  Go.pl (fun T t A S => XT.lloadN A C.1 rfl (hb C.2.1 d) hl (by subst hq; exact S)) K
theorem g_lload (C : Cx p s m meth c Z own nm code ml ret) {i : Nat} {v : Int64} (d : decode code pc = .ok (.lload i, 2)) (hl : Ls[i]? = some (.val (.long v))) (hq : pc + 2 = q) (K : Go p l e R s m args below meth c Ph n0 h k n q Ls (.long v :: st)) : Go p l e R s m args below meth c Ph n0 h k n pc Ls (st) :=
  Go.pl (fun T t A S => XT.lload A C.1 rfl (hb C.2.1 d) hl (by subst hq; exact S)) K
theorem g_lstoreN (C : Cx p s m meth c Z own nm code ml ret) {i : Fin 4} {v : Int64} {L' : Array Slot} (d : decode code pc = .ok (.lstore_n i, 1))  (hl : storeLocals Ls i.val (.long v) = some L') (hq : pc + 1 = q) (K : Go p l e R s m args below meth c Ph n0 h k n q L' (st)) : Go p l e R s m args below meth c Ph n0 h k n pc Ls (.long v :: st) :=
  Go.pl (fun T t A S => XT.lstoreN A C.1 rfl (hb C.2.1 d) rfl hl (by subst hq; exact S)) K
theorem g_lstore (C : Cx p s m meth c Z own nm code ml ret) {i : Nat} {v : Int64} {L' : Array Slot} (d : decode code pc = .ok (.lstore i, 2))  (hl : storeLocals Ls i (.long v) = some L') (hq : pc + 2 = q) (K : Go p l e R s m args below meth c Ph n0 h k n q L' (st)) : Go p l e R s m args below meth c Ph n0 h k n pc Ls (.long v :: st) :=
  Go.pl (fun T t A S => XT.lstore A C.1 rfl (hb C.2.1 d) rfl hl (by subst hq; exact S)) K
theorem g_aloadN (C : Cx p s m meth c Z own nm code ml ret) {i : Fin 4} {v : Value} (d : decode code pc = .ok (.aload_n i, 1)) (hl : Ls[i.val]? = some (.val v)) (hv : v.isRef = true) (hq : pc + 1 = q) (K : Go p l e R s m args below meth c Ph n0 h k n q Ls (v :: st)) : Go p l e R s m args below meth c Ph n0 h k n pc Ls (st) :=
  Go.pl (fun T t A S => XS.aloadN A C.1 rfl (hb C.2.1 d) hl hv (by subst hq; exact S)) K
theorem g_aload (C : Cx p s m meth c Z own nm code ml ret) {i : Nat} {v : Value} (d : decode code pc = .ok (.aload i, 2)) (hl : Ls[i]? = some (.val v)) (hv : v.isRef = true) (hq : pc + 2 = q) (K : Go p l e R s m args below meth c Ph n0 h k n q Ls (v :: st)) : Go p l e R s m args below meth c Ph n0 h k n pc Ls (st) :=
  Go.pl (fun T t A S => XS.aload A C.1 rfl (hb C.2.1 d) hl hv (by subst hq; exact S)) K
theorem g_astoreN (C : Cx p s m meth c Z own nm code ml ret) {i : Fin 4} {v : Value} {L' : Array Slot} (d : decode code pc = .ok (.astore_n i, 1))  (hv : v.isRef = true) (hl : storeLocals Ls i.val (v) = some L') (hq : pc + 1 = q) (K : Go p l e R s m args below meth c Ph n0 h k n q L' (st)) : Go p l e R s m args below meth c Ph n0 h k n pc Ls (v :: st) :=
  Go.pl (fun T t A S => XS.astoreN A C.1 rfl (hb C.2.1 d) rfl hv hl (by subst hq; exact S)) K
theorem g_astore (C : Cx p s m meth c Z own nm code ml ret) {i : Nat} {v : Value} {L' : Array Slot} (d : decode code pc = .ok (.astore i, 2))  (hv : v.isRef = true) (hl : storeLocals Ls i (v) = some L') (hq : pc + 2 = q) (K : Go p l e R s m args below meth c Ph n0 h k n q L' (st)) : Go p l e R s m args below meth c Ph n0 h k n pc Ls (v :: st) :=
  Go.pl (fun T t A S => XS.astore A C.1 rfl (hb C.2.1 d) rfl hv hl (by subst hq; exact S)) K
theorem g_iinc (C : Cx p s m meth c Z own nm code ml ret) {i : Nat} {cst : Int} {v : Int32} {L' : Array Slot} (d : decode code pc = .ok (.iinc i cst, 3)) (hl : Ls[i]? = some (.val (.int v))) (hl' : storeLocals Ls i (.int (v + Int32.ofInt cst)) = some L') (hq : pc + 3 = q) (K : Go p l e R s m args below meth c Ph n0 h k n q L' (st)) : Go p l e R s m args below meth c Ph n0 h k n pc Ls (st) :=
  Go.pl (fun T t A S => XS.iinc A C.1 rfl (hb C.2.1 d) hl hl' (by subst hq; exact S)) K
theorem g_iconst (C : Cx p s m meth c Z own nm code ml ret) {i : Int} {z : Int32} (d : decode code pc = .ok (.iconst i, 1)) (hz : Int32.ofInt i = z) (hq : pc + 1 = q) (K : Go p l e R s m args below meth c Ph n0 h k n q Ls (.int z :: st)) : Go p l e R s m args below meth c Ph n0 h k n pc Ls st :=
  Go.pl (fun T t A S => XS.iconst A C.1 rfl (hb C.2.1 d) (by subst hq hz; exact S)) K
theorem g_bipush (C : Cx p s m meth c Z own nm code ml ret) {i : Int} {z : Int32} (d : decode code pc = .ok (.bipush i, 2)) (hz : (Int8.ofInt i).toInt32 = z) (hq : pc + 2 = q) (K : Go p l e R s m args below meth c Ph n0 h k n q Ls (.int z :: st)) : Go p l e R s m args below meth c Ph n0 h k n pc Ls st :=
  Go.pl (fun T t A S => XS.bipush A C.1 rfl (hb C.2.1 d) (by subst hq hz; exact S)) K
theorem g_sipush (C : Cx p s m meth c Z own nm code ml ret) {i : Int} {z : Int32} (d : decode code pc = .ok (.sipush i, 3)) (hz : (Int16.ofInt i).toInt32 = z) (hq : pc + 3 = q) (K : Go p l e R s m args below meth c Ph n0 h k n q Ls (.int z :: st)) : Go p l e R s m args below meth c Ph n0 h k n pc Ls st :=
  Go.pl (fun T t A S => XS.sipush A C.1 rfl (hb C.2.1 d) (by subst hq hz; exact S)) K
theorem g_lconst (C : Cx p s m meth c Z own nm code ml ret) {i : Fin 2} {z : Int64} (d : decode code pc = .ok (.lconst i, 1)) (hz : Int64.ofNat i = z) (hq : pc + 1 = q) (K : Go p l e R s m args below meth c Ph n0 h k n q Ls (.long z :: st)) : Go p l e R s m args below meth c Ph n0 h k n pc Ls st :=
  Go.pl (fun T t A S => XT.lconst A C.1 rfl (hb C.2.1 d) (by subst hq hz; exact S)) K
theorem g_aconst_null (C : Cx p s m meth c Z own nm code ml ret)  (d : decode code pc = .ok (.aconst_null, 1))  (hq : pc + 1 = q) (K : Go p l e R s m args below meth c Ph n0 h k n q Ls (.null :: st)) : Go p l e R s m args below meth c Ph n0 h k n pc Ls (st) :=
  Go.pl (fun T t A S => XS.aconstNull A C.1 rfl (hb C.2.1 d)  (by subst hq; exact S)) K
theorem g_dup (C : Cx p s m meth c Z own nm code ml ret) {x : Value} (d : decode code pc = .ok (.dup, 1)) (hc : x.category = 1) (hq : pc + 1 = q) (K : Go p l e R s m args below meth c Ph n0 h k n q Ls (x :: x :: st)) : Go p l e R s m args below meth c Ph n0 h k n pc Ls (x :: st) :=
  Go.pl (fun T t A S => XS.dup A C.1 rfl (hb C.2.1 d) rfl hc (by subst hq; exact S)) K
theorem g_pop (C : Cx p s m meth c Z own nm code ml ret) {x : Value} (d : decode code pc = .ok (.pop, 1)) (hc : x.category = 1) (hq : pc + 1 = q) (K : Go p l e R s m args below meth c Ph n0 h k n q Ls (st)) : Go p l e R s m args below meth c Ph n0 h k n pc Ls (x :: st) :=
  Go.pl (fun T t A S => XT.pop A C.1 rfl (hb C.2.1 d) rfl hc (by subst hq; exact S)) K
theorem g_dup_x1 (C : Cx p s m meth c Z own nm code ml ret) {x y : Value} (d : decode code pc = .ok (.dup_x1, 1)) (hc : x.category = 1) (hc' : y.category = 1) (hq : pc + 1 = q) (K : Go p l e R s m args below meth c Ph n0 h k n q Ls (x :: y :: x :: st)) : Go p l e R s m args below meth c Ph n0 h k n pc Ls (x :: y :: st) :=
  Go.pl (fun T t A S => XT.dupX1 A C.1 rfl (hb C.2.1 d) rfl hc hc' (by subst hq; exact S)) K
theorem g_dup2 (C : Cx p s m meth c Z own nm code ml ret) {x y : Value} (d : decode code pc = .ok (.dup2, 1)) (hc : x.category = 1) (hc' : y.category = 1) (hq : pc + 1 = q) (K : Go p l e R s m args below meth c Ph n0 h k n q Ls (x :: y :: x :: y :: st)) : Go p l e R s m args below meth c Ph n0 h k n pc Ls (x :: y :: st) :=
  Go.pl (fun T t A S => XT.dup2 A C.1 rfl (hb C.2.1 d) rfl hc hc' (by subst hq; exact S)) K
theorem g_dup2L (C : Cx p s m meth c Z own nm code ml ret) {x : Int64} (d : decode code pc = .ok (.dup2, 1))  (hq : pc + 1 = q) (K : Go p l e R s m args below meth c Ph n0 h k n q Ls (.long x :: .long x :: st)) : Go p l e R s m args below meth c Ph n0 h k n pc Ls (.long x :: st) :=
  Go.pl (fun T t A S => XT.dup2L A C.1 rfl (hb C.2.1 d) rfl (by subst hq; exact S)) K
theorem g_iadd (C : Cx p s m meth c Z own nm code ml ret) {x y : Int32} (d : decode code pc = .ok (.iadd, 1))  (hq : pc + 1 = q) (K : Go p l e R s m args below meth c Ph n0 h k n q Ls (.int (x + y) :: st)) : Go p l e R s m args below meth c Ph n0 h k n pc Ls (.int y :: .int x :: st) :=
  Go.pl (fun T t A S => XS.iadd A C.1 rfl (hb C.2.1 d) rfl (by subst hq; exact S)) K
theorem g_isub (C : Cx p s m meth c Z own nm code ml ret) {x y : Int32} (d : decode code pc = .ok (.isub, 1))  (hq : pc + 1 = q) (K : Go p l e R s m args below meth c Ph n0 h k n q Ls (.int (x - y) :: st)) : Go p l e R s m args below meth c Ph n0 h k n pc Ls (.int y :: .int x :: st) :=
  Go.pl (fun T t A S => XS.isub A C.1 rfl (hb C.2.1 d) rfl (by subst hq; exact S)) K
theorem g_imul (C : Cx p s m meth c Z own nm code ml ret) {x y : Int32} (d : decode code pc = .ok (.imul, 1))  (hq : pc + 1 = q) (K : Go p l e R s m args below meth c Ph n0 h k n q Ls (.int (x * y) :: st)) : Go p l e R s m args below meth c Ph n0 h k n pc Ls (.int y :: .int x :: st) :=
  Go.pl (fun T t A S => XS.imul A C.1 rfl (hb C.2.1 d) rfl (by subst hq; exact S)) K
theorem g_iand (C : Cx p s m meth c Z own nm code ml ret) {x y : Int32} (d : decode code pc = .ok (.iand, 1))  (hq : pc + 1 = q) (K : Go p l e R s m args below meth c Ph n0 h k n q Ls (.int (x &&& y) :: st)) : Go p l e R s m args below meth c Ph n0 h k n pc Ls (.int y :: .int x :: st) :=
  Go.pl (fun T t A S => XS.iand A C.1 rfl (hb C.2.1 d) rfl (by subst hq; exact S)) K
theorem g_ior (C : Cx p s m meth c Z own nm code ml ret) {x y : Int32} (d : decode code pc = .ok (.ior, 1))  (hq : pc + 1 = q) (K : Go p l e R s m args below meth c Ph n0 h k n q Ls (.int (x ||| y) :: st)) : Go p l e R s m args below meth c Ph n0 h k n pc Ls (.int y :: .int x :: st) :=
  Go.pl (fun T t A S => XT.ior A C.1 rfl (hb C.2.1 d) rfl (by subst hq; exact S)) K
theorem g_ixor (C : Cx p s m meth c Z own nm code ml ret) {x y : Int32} (d : decode code pc = .ok (.ixor, 1))  (hq : pc + 1 = q) (K : Go p l e R s m args below meth c Ph n0 h k n q Ls (.int (x ^^^ y) :: st)) : Go p l e R s m args below meth c Ph n0 h k n pc Ls (.int y :: .int x :: st) :=
  Go.pl (fun T t A S => XT.ixor A C.1 rfl (hb C.2.1 d) rfl (by subst hq; exact S)) K
theorem g_ishl (C : Cx p s m meth c Z own nm code ml ret) {x y : Int32} (d : decode code pc = .ok (.ishl, 1))  (hq : pc + 1 = q) (K : Go p l e R s m args below meth c Ph n0 h k n q Ls (.int (x <<< (y &&& 31)) :: st)) : Go p l e R s m args below meth c Ph n0 h k n pc Ls (.int y :: .int x :: st) :=
  Go.pl (fun T t A S => XT.ishl A C.1 rfl (hb C.2.1 d) rfl (by subst hq; exact S)) K
theorem g_ishr (C : Cx p s m meth c Z own nm code ml ret) {x y : Int32} (d : decode code pc = .ok (.ishr, 1))  (hq : pc + 1 = q) (K : Go p l e R s m args below meth c Ph n0 h k n q Ls (.int (x >>> (y &&& 31)) :: st)) : Go p l e R s m args below meth c Ph n0 h k n pc Ls (.int y :: .int x :: st) :=
  Go.pl (fun T t A S => XT.ishr A C.1 rfl (hb C.2.1 d) rfl (by subst hq; exact S)) K
theorem g_iushr (C : Cx p s m meth c Z own nm code ml ret) {x y : Int32} (d : decode code pc = .ok (.iushr, 1))  (hq : pc + 1 = q) (K : Go p l e R s m args below meth c Ph n0 h k n q Ls (.int (XT.ushr x y) :: st)) : Go p l e R s m args below meth c Ph n0 h k n pc Ls (.int y :: .int x :: st) :=
  Go.pl (fun T t A S => XT.iushr A C.1 rfl (hb C.2.1 d) rfl (by subst hq; exact S)) K
theorem g_idiv (C : Cx p s m meth c Z own nm code ml ret) {x y : Int32} (d : decode code pc = .ok (.idiv, 1)) (hy : y ≠ 0) (hq : pc + 1 = q) (K : Go p l e R s m args below meth c Ph n0 h k n q Ls (.int (x / y) :: st)) : Go p l e R s m args below meth c Ph n0 h k n pc Ls (.int y :: .int x :: st) :=
  Go.pl (fun T t A S => XS.idiv A C.1 rfl (hb C.2.1 d) rfl hy (by subst hq; exact S)) K
theorem g_irem (C : Cx p s m meth c Z own nm code ml ret) {x y : Int32} (d : decode code pc = .ok (.irem, 1)) (hy : y ≠ 0) (hq : pc + 1 = q) (K : Go p l e R s m args below meth c Ph n0 h k n q Ls (.int (x % y) :: st)) : Go p l e R s m args below meth c Ph n0 h k n pc Ls (.int y :: .int x :: st) :=
  Go.pl (fun T t A S => XS.irem A C.1 rfl (hb C.2.1 d) rfl hy (by subst hq; rw [irem_eq_mod x y]; exact S)) K
theorem g_ineg (C : Cx p s m meth c Z own nm code ml ret) {x : Int32} (d : decode code pc = .ok (.ineg, 1))  (hq : pc + 1 = q) (K : Go p l e R s m args below meth c Ph n0 h k n q Ls (.int (-x) :: st)) : Go p l e R s m args below meth c Ph n0 h k n pc Ls (.int x :: st) :=
  Go.pl (fun T t A S => XS.ineg A C.1 rfl (hb C.2.1 d) rfl (by subst hq; exact S)) K
theorem g_ladd (C : Cx p s m meth c Z own nm code ml ret) {x y : Int64} (d : decode code pc = .ok (.ladd, 1))  (hq : pc + 1 = q) (K : Go p l e R s m args below meth c Ph n0 h k n q Ls (.long (x + y) :: st)) : Go p l e R s m args below meth c Ph n0 h k n pc Ls (.long y :: .long x :: st) :=
  Go.pl (fun T t A S => XT.ladd A C.1 rfl (hb C.2.1 d) rfl (by subst hq; exact S)) K
theorem g_lsub (C : Cx p s m meth c Z own nm code ml ret) {x y : Int64} (d : decode code pc = .ok (.lsub, 1))  (hq : pc + 1 = q) (K : Go p l e R s m args below meth c Ph n0 h k n q Ls (.long (x - y) :: st)) : Go p l e R s m args below meth c Ph n0 h k n pc Ls (.long y :: .long x :: st) :=
  Go.pl (fun T t A S => XT.lsub A C.1 rfl (hb C.2.1 d) rfl (by subst hq; exact S)) K
theorem g_lmul (C : Cx p s m meth c Z own nm code ml ret) {x y : Int64} (d : decode code pc = .ok (.lmul, 1))  (hq : pc + 1 = q) (K : Go p l e R s m args below meth c Ph n0 h k n q Ls (.long (x * y) :: st)) : Go p l e R s m args below meth c Ph n0 h k n pc Ls (.long y :: .long x :: st) :=
  Go.pl (fun T t A S => XT.lmul A C.1 rfl (hb C.2.1 d) rfl (by subst hq; exact S)) K
theorem g_land (C : Cx p s m meth c Z own nm code ml ret) {x y : Int64} (d : decode code pc = .ok (.land, 1))  (hq : pc + 1 = q) (K : Go p l e R s m args below meth c Ph n0 h k n q Ls (.long (x &&& y) :: st)) : Go p l e R s m args below meth c Ph n0 h k n pc Ls (.long y :: .long x :: st) :=
  Go.pl (fun T t A S => XT.land A C.1 rfl (hb C.2.1 d) rfl (by subst hq; exact S)) K
theorem g_lor (C : Cx p s m meth c Z own nm code ml ret) {x y : Int64} (d : decode code pc = .ok (.lor, 1))  (hq : pc + 1 = q) (K : Go p l e R s m args below meth c Ph n0 h k n q Ls (.long (x ||| y) :: st)) : Go p l e R s m args below meth c Ph n0 h k n pc Ls (.long y :: .long x :: st) :=
  Go.pl (fun T t A S => XT.lor A C.1 rfl (hb C.2.1 d) rfl (by subst hq; exact S)) K
theorem g_lxor (C : Cx p s m meth c Z own nm code ml ret) {x y : Int64} (d : decode code pc = .ok (.lxor, 1))  (hq : pc + 1 = q) (K : Go p l e R s m args below meth c Ph n0 h k n q Ls (.long (x ^^^ y) :: st)) : Go p l e R s m args below meth c Ph n0 h k n pc Ls (.long y :: .long x :: st) :=
  Go.pl (fun T t A S => XT.lxor A C.1 rfl (hb C.2.1 d) rfl (by subst hq; exact S)) K
theorem g_lushr (C : Cx p s m meth c Z own nm code ml ret) {x : Int64} {y : Int32} (d : decode code pc = .ok (.lushr, 1))  (hq : pc + 1 = q) (K : Go p l e R s m args below meth c Ph n0 h k n q Ls (.long (XT.ushrL x y) :: st)) : Go p l e R s m args below meth c Ph n0 h k n pc Ls (.int y :: .long x :: st) :=
  Go.pl (fun T t A S => XT.lushr A C.1 rfl (hb C.2.1 d) rfl (by subst hq; exact S)) K
theorem g_lcmp (C : Cx p s m meth c Z own nm code ml ret) {x y : Int64} (d : decode code pc = .ok (.lcmp, 1))  (hq : pc + 1 = q) (K : Go p l e R s m args below meth c Ph n0 h k n q Ls (.int (XT.cmpL x y) :: st)) : Go p l e R s m args below meth c Ph n0 h k n pc Ls (.long y :: .long x :: st) :=
  Go.pl (fun T t A S => XT.lcmp A C.1 rfl (hb C.2.1 d) rfl (by subst hq; exact S)) K
theorem g_i2l (C : Cx p s m meth c Z own nm code ml ret) {x : Int32} (d : decode code pc = .ok (.i2l, 1))  (hq : pc + 1 = q) (K : Go p l e R s m args below meth c Ph n0 h k n q Ls (.long (x.toInt64) :: st)) : Go p l e R s m args below meth c Ph n0 h k n pc Ls (.int x :: st) :=
  Go.pl (fun T t A S => XT.i2l A C.1 rfl (hb C.2.1 d) rfl (by subst hq; exact S)) K
theorem g_l2i (C : Cx p s m meth c Z own nm code ml ret) {x : Int64} (d : decode code pc = .ok (.l2i, 1))  (hq : pc + 1 = q) (K : Go p l e R s m args below meth c Ph n0 h k n q Ls (.int (x.toInt32) :: st)) : Go p l e R s m args below meth c Ph n0 h k n pc Ls (.long x :: st) :=
  Go.pl (fun T t A S => XT.l2i A C.1 rfl (hb C.2.1 d) rfl (by subst hq; exact S)) K
theorem g_i2b (C : Cx p s m meth c Z own nm code ml ret) {x : Int32} (d : decode code pc = .ok (.i2b, 1))  (hq : pc + 1 = q) (K : Go p l e R s m args below meth c Ph n0 h k n q Ls (.int (x.toInt8.toInt32) :: st)) : Go p l e R s m args below meth c Ph n0 h k n pc Ls (.int x :: st) :=
  Go.pl (fun T t A S => XT.i2b A C.1 rfl (hb C.2.1 d) rfl (by subst hq; exact S)) K
theorem g_i2c (C : Cx p s m meth c Z own nm code ml ret) {x : Int32} (d : decode code pc = .ok (.i2c, 1))  (hq : pc + 1 = q) (K : Go p l e R s m args below meth c Ph n0 h k n q Ls (.int (x.toUInt32.toUInt16.toUInt32.toInt32) :: st)) : Go p l e R s m args below meth c Ph n0 h k n pc Ls (.int x :: st) :=
  Go.pl (fun T t A S => XT.i2c A C.1 rfl (hb C.2.1 d) rfl (by subst hq; exact S)) K
theorem g_i2s (C : Cx p s m meth c Z own nm code ml ret) {x : Int32} (d : decode code pc = .ok (.i2s, 1))  (hq : pc + 1 = q) (K : Go p l e R s m args below meth c Ph n0 h k n q Ls (.int (x.toInt16.toInt32) :: st)) : Go p l e R s m args below meth c Ph n0 h k n pc Ls (.int x :: st) :=
  Go.pl (fun T t A S => XT.i2s A C.1 rfl (hb C.2.1 d) rfl (by subst hq; exact S)) K
theorem g_goto (C : Cx p s m meth c Z own nm code ml ret) {o : Int} (d : decode code pc = .ok (.goto o, 3)) (ho : 0 ≤ (pc : Int) + o) (hq : ((pc : Int) + o).toNat = q) (K : Go p l e R s m args below meth c Ph n0 h k n q Ls st) : Go p l e R s m args below meth c Ph n0 h k n pc Ls st :=
  Go.pl (fun T t A S => XS.goto A C.1 rfl rfl (hb C.2.1 d) ho hq S) K
theorem g_tswIn (C : Cx p s m meth c Z own nm code ml ret) {dflt low high : Int} {offs : Array Int} {len : Nat} {o : Int} {i : Int32} (d : decode code pc = .ok (.tableswitch dflt low high offs, len)) (hin : ¬ (i.toInt < low ∨ i.toInt > high)) (hoff : offs[(i.toInt - low).toNat]? = some o) (ho : 0 ≤ (pc : Int) + o) (hq : ((pc : Int) + o).toNat = q) (K : Go p l e R s m args below meth c Ph n0 h k n q Ls st) : Go p l e R s m args below meth c Ph n0 h k n pc Ls (.int i :: st) :=
  Go.pl (fun T t A S => XS.tswIn A C.1 rfl rfl (hb C.2.1 d) rfl hin hoff ho hq S) K
theorem g_if (C : Cx p s m meth c Z own nm code ml ret) {cd : ClassFile.Cond} {x : Int32} {o : Int} {q' : Nat} (d : decode code pc = .ok (.ifCond cd o, 3)) (ho : 0 ≤ (pc : Int) + o) (hq' : ((pc : Int) + o).toNat = q') (hq : pc + 3 = q)
    (K1 : ifCond.holds cd x = true → Go p l e R s m args below meth c Ph n0 h k n q' Ls st) (K2 : ifCond.holds cd x = false → Go p l e R s m args below meth c Ph n0 h k n q Ls st) : Go p l e R s m args below meth c Ph n0 h k n pc Ls (.int x :: st) := by
  cases hb' : ifCond.holds cd x
  · exact Go.pl (fun T t A S => XS.ifNo A C.1 rfl (hb C.2.1 d) rfl hb' (by subst hq; exact S)) (K2 hb')
  · exact Go.pl (fun T t A S => XS.ifYes A C.1 rfl rfl (hb C.2.1 d) rfl hb' ho hq' S) (K1 hb')
theorem g_icmp (C : Cx p s m meth c Z own nm code ml ret) {cd : ClassFile.Cond} {x y : Int32} {o : Int} {q' : Nat} (d : decode code pc = .ok (.if_icmp cd o, 3)) (ho : 0 ≤ (pc : Int) + o) (hq' : ((pc : Int) + o).toNat = q') (hq : pc + 3 = q)
    (K1 : if_icmp.holds cd x y = true → Go p l e R s m args below meth c Ph n0 h k n q' Ls st) (K2 : if_icmp.holds cd x y = false → Go p l e R s m args below meth c Ph n0 h k n q Ls st) : Go p l e R s m args below meth c Ph n0 h k n pc Ls (.int y :: .int x :: st) := by
  cases hb' : if_icmp.holds cd x y
  · exact Go.pl (fun T t A S => XS.icmpNo A C.1 rfl (hb C.2.1 d) rfl hb' (by subst hq; exact S)) (K2 hb')
  · exact Go.pl (fun T t A S => XS.icmpYes A C.1 rfl rfl (hb C.2.1 d) rfl hb' ho hq' S) (K1 hb')
theorem g_if_eq (C : Cx p s m meth c Z own nm code ml ret) {x : Int32} {o : Int} {q' : Nat} (d : decode code pc = .ok (.ifCond .eq o, 3)) (ho : 0 ≤ (pc : Int) + o) (hq' : ((pc : Int) + o).toNat = q') (hq : pc + 3 = q)
    (K1 : x = 0 → Go p l e R s m args below meth c Ph n0 h k n q' Ls st) (K2 : ¬ x = 0 → Go p l e R s m args below meth c Ph n0 h k n q Ls st) : Go p l e R s m args below meth c Ph n0 h k n pc Ls (.int x :: st) :=
  g_if C d ho hq' hq (fun hh => K1 (by simpa [ifCond.holds, Int32.not_lt, Int32.not_le] using hh)) (fun hh => K2 (by simpa [ifCond.holds, Int32.not_lt, Int32.not_le] using hh))
theorem g_icmp_eq (C : Cx p s m meth c Z own nm code ml ret) {x y : Int32} {o : Int} {q' : Nat} (d : decode code pc = .ok (.if_icmp .eq o, 3)) (ho : 0 ≤ (pc : Int) + o) (hq' : ((pc : Int) + o).toNat = q') (hq : pc + 3 = q)
    (K1 : x = y → Go p l e R s m args below meth c Ph n0 h k n q' Ls st) (K2 : ¬ x = y → Go p l e R s m args below meth c Ph n0 h k n q Ls st) : Go p l e R s m args below meth c Ph n0 h k n pc Ls (.int y :: .int x :: st) :=
  g_icmp C d ho hq' hq (fun hh => K1 (by simpa [if_icmp.holds, Int32.not_lt, Int32.not_le] using hh)) (fun hh => K2 (by simpa [if_icmp.holds, Int32.not_lt, Int32.not_le] using hh))
theorem g_if_ne (C : Cx p s m meth c Z own nm code ml ret) {x : Int32} {o : Int} {q' : Nat} (d : decode code pc = .ok (.ifCond .ne o, 3)) (ho : 0 ≤ (pc : Int) + o) (hq' : ((pc : Int) + o).toNat = q') (hq : pc + 3 = q)
    (K1 : ¬ x = 0 → Go p l e R s m args below meth c Ph n0 h k n q' Ls st) (K2 : x = 0 → Go p l e R s m args below meth c Ph n0 h k n q Ls st) : Go p l e R s m args below meth c Ph n0 h k n pc Ls (.int x :: st) :=
  g_if C d ho hq' hq (fun hh => K1 (by simpa [ifCond.holds, Int32.not_lt, Int32.not_le] using hh)) (fun hh => K2 (by simpa [ifCond.holds, Int32.not_lt, Int32.not_le] using hh))
theorem g_icmp_ne (C : Cx p s m meth c Z own nm code ml ret) {x y : Int32} {o : Int} {q' : Nat} (d : decode code pc = .ok (.if_icmp .ne o, 3)) (ho : 0 ≤ (pc : Int) + o) (hq' : ((pc : Int) + o).toNat = q') (hq : pc + 3 = q)
    (K1 : ¬ x = y → Go p l e R s m args below meth c Ph n0 h k n q' Ls st) (K2 : x = y → Go p l e R s m args below meth c Ph n0 h k n q Ls st) : Go p l e R s m args below meth c Ph n0 h k n pc Ls (.int y :: .int x :: st) :=
  g_icmp C d ho hq' hq (fun hh => K1 (by simpa [if_icmp.holds, Int32.not_lt, Int32.not_le] using hh)) (fun hh => K2 (by simpa [if_icmp.holds, Int32.not_lt, Int32.not_le] using hh))
theorem g_if_lt (C : Cx p s m meth c Z own nm code ml ret) {x : Int32} {o : Int} {q' : Nat} (d : decode code pc = .ok (.ifCond .lt o, 3)) (ho : 0 ≤ (pc : Int) + o) (hq' : ((pc : Int) + o).toNat = q') (hq : pc + 3 = q)
    (K1 : x < 0 → Go p l e R s m args below meth c Ph n0 h k n q' Ls st) (K2 : ¬ x < 0 → Go p l e R s m args below meth c Ph n0 h k n q Ls st) : Go p l e R s m args below meth c Ph n0 h k n pc Ls (.int x :: st) :=
  g_if C d ho hq' hq (fun hh => K1 (by simpa [ifCond.holds, Int32.not_lt, Int32.not_le] using hh)) (fun hh => K2 (by simpa [ifCond.holds, Int32.not_lt, Int32.not_le] using hh))
theorem g_icmp_lt (C : Cx p s m meth c Z own nm code ml ret) {x y : Int32} {o : Int} {q' : Nat} (d : decode code pc = .ok (.if_icmp .lt o, 3)) (ho : 0 ≤ (pc : Int) + o) (hq' : ((pc : Int) + o).toNat = q') (hq : pc + 3 = q)
    (K1 : x < y → Go p l e R s m args below meth c Ph n0 h k n q' Ls st) (K2 : ¬ x < y → Go p l e R s m args below meth c Ph n0 h k n q Ls st) : Go p l e R s m args below meth c Ph n0 h k n pc Ls (.int y :: .int x :: st) :=
  g_icmp C d ho hq' hq (fun hh => K1 (by simpa [if_icmp.holds, Int32.not_lt, Int32.not_le] using hh)) (fun hh => K2 (by simpa [if_icmp.holds, Int32.not_lt, Int32.not_le] using hh))
theorem g_if_ge (C : Cx p s m meth c Z own nm code ml ret) {x : Int32} {o : Int} {q' : Nat} (d : decode code pc = .ok (.ifCond .ge o, 3)) (ho : 0 ≤ (pc : Int) + o) (hq' : ((pc : Int) + o).toNat = q') (hq : pc + 3 = q)
    (K1 : ¬ x < 0 → Go p l e R s m args below meth c Ph n0 h k n q' Ls st) (K2 : x < 0 → Go p l e R s m args below meth c Ph n0 h k n q Ls st) : Go p l e R s m args below meth c Ph n0 h k n pc Ls (.int x :: st) :=
  g_if C d ho hq' hq (fun hh => K1 (by simpa [ifCond.holds, Int32.not_lt, Int32.not_le] using hh)) (fun hh => K2 (by simpa [ifCond.holds, Int32.not_lt, Int32.not_le] using hh))
theorem g_icmp_ge (C : Cx p s m meth c Z own nm code ml ret) {x y : Int32} {o : Int} {q' : Nat} (d : decode code pc = .ok (.if_icmp .ge o, 3)) (ho : 0 ≤ (pc : Int) + o) (hq' : ((pc : Int) + o).toNat = q') (hq : pc + 3 = q)
    (K1 : ¬ x < y → Go p l e R s m args below meth c Ph n0 h k n q' Ls st) (K2 : x < y → Go p l e R s m args below meth c Ph n0 h k n q Ls st) : Go p l e R s m args below meth c Ph n0 h k n pc Ls (.int y :: .int x :: st) :=
  g_icmp C d ho hq' hq (fun hh => K1 (by simpa [if_icmp.holds, Int32.not_lt, Int32.not_le] using hh)) (fun hh => K2 (by simpa [if_icmp.holds, Int32.not_lt, Int32.not_le] using hh))
theorem g_if_gt (C : Cx p s m meth c Z own nm code ml ret) {x : Int32} {o : Int} {q' : Nat} (d : decode code pc = .ok (.ifCond .gt o, 3)) (ho : 0 ≤ (pc : Int) + o) (hq' : ((pc : Int) + o).toNat = q') (hq : pc + 3 = q)
    (K1 : 0 < x → Go p l e R s m args below meth c Ph n0 h k n q' Ls st) (K2 : ¬ 0 < x → Go p l e R s m args below meth c Ph n0 h k n q Ls st) : Go p l e R s m args below meth c Ph n0 h k n pc Ls (.int x :: st) :=
  g_if C d ho hq' hq (fun hh => K1 (by simpa [ifCond.holds, Int32.not_lt, Int32.not_le] using hh)) (fun hh => K2 (by simpa [ifCond.holds, Int32.not_lt, Int32.not_le] using hh))
theorem g_icmp_gt (C : Cx p s m meth c Z own nm code ml ret) {x y : Int32} {o : Int} {q' : Nat} (d : decode code pc = .ok (.if_icmp .gt o, 3)) (ho : 0 ≤ (pc : Int) + o) (hq' : ((pc : Int) + o).toNat = q') (hq : pc + 3 = q)
    (K1 : y < x → Go p l e R s m args below meth c Ph n0 h k n q' Ls st) (K2 : ¬ y < x → Go p l e R s m args below meth c Ph n0 h k n q Ls st) : Go p l e R s m args below meth c Ph n0 h k n pc Ls (.int y :: .int x :: st) :=
  g_icmp C d ho hq' hq (fun hh => K1 (by simpa [if_icmp.holds, Int32.not_lt, Int32.not_le] using hh)) (fun hh => K2 (by simpa [if_icmp.holds, Int32.not_lt, Int32.not_le] using hh))
theorem g_if_le (C : Cx p s m meth c Z own nm code ml ret) {x : Int32} {o : Int} {q' : Nat} (d : decode code pc = .ok (.ifCond .le o, 3)) (ho : 0 ≤ (pc : Int) + o) (hq' : ((pc : Int) + o).toNat = q') (hq : pc + 3 = q)
    (K1 : ¬ 0 < x → Go p l e R s m args below meth c Ph n0 h k n q' Ls st) (K2 : 0 < x → Go p l e R s m args below meth c Ph n0 h k n q Ls st) : Go p l e R s m args below meth c Ph n0 h k n pc Ls (.int x :: st) :=
  g_if C d ho hq' hq (fun hh => K1 (by simpa [ifCond.holds, Int32.not_lt, Int32.not_le] using hh)) (fun hh => K2 (by simpa [ifCond.holds, Int32.not_lt, Int32.not_le] using hh))
theorem g_icmp_le (C : Cx p s m meth c Z own nm code ml ret) {x y : Int32} {o : Int} {q' : Nat} (d : decode code pc = .ok (.if_icmp .le o, 3)) (ho : 0 ≤ (pc : Int) + o) (hq' : ((pc : Int) + o).toNat = q') (hq : pc + 3 = q)
    (K1 : ¬ y < x → Go p l e R s m args below meth c Ph n0 h k n q' Ls st) (K2 : y < x → Go p l e R s m args below meth c Ph n0 h k n q Ls st) : Go p l e R s m args below meth c Ph n0 h k n pc Ls (.int y :: .int x :: st) :=
  g_icmp C d ho hq' hq (fun hh => K1 (by simpa [if_icmp.holds, Int32.not_lt, Int32.not_le] using hh)) (fun hh => K2 (by simpa [if_icmp.holds, Int32.not_lt, Int32.not_le] using hh))
theorem g_ifnullY (C : Cx p s m meth c Z own nm code ml ret) {a : Addr} {o : Int} (d : decode code pc = .ok (.ifnull o, 3)) (ho : 0 ≤ (pc : Int) + o) (hq : ((pc : Int) + o).toNat = q) (K : Go p l e R s m args below meth c Ph n0 h k n q Ls st) : Go p l e R s m args below meth c Ph n0 h k n pc Ls (.null :: st) :=
  Go.pl (fun T t A S => XS.ifnullYes A C.1 rfl rfl (hb C.2.1 d) rfl ho hq S) K
theorem g_ifnullN (C : Cx p s m meth c Z own nm code ml ret) {a : Addr} {o : Int} (d : decode code pc = .ok (.ifnull o, 3)) (hq : pc + 3 = q) (K : Go p l e R s m args below meth c Ph n0 h k n q Ls st) : Go p l e R s m args below meth c Ph n0 h k n pc Ls (.ref a :: st) :=
  Go.pl (fun T t A S => XS.ifnullNo A C.1 rfl (hb C.2.1 d) rfl (by subst hq; exact S)) K
theorem g_ifnonnullY (C : Cx p s m meth c Z own nm code ml ret) {a : Addr} {o : Int} (d : decode code pc = .ok (.ifnonnull o, 3)) (ho : 0 ≤ (pc : Int) + o) (hq : ((pc : Int) + o).toNat = q) (K : Go p l e R s m args below meth c Ph n0 h k n q Ls st) : Go p l e R s m args below meth c Ph n0 h k n pc Ls (.ref a :: st) :=
  Go.pl (fun T t A S => XT.ifnonnullYes A C.1 rfl rfl (hb C.2.1 d) rfl ho hq S) K
theorem g_ifnonnullN (C : Cx p s m meth c Z own nm code ml ret) {a : Addr} {o : Int} (d : decode code pc = .ok (.ifnonnull o, 3)) (hq : pc + 3 = q) (K : Go p l e R s m args below meth c Ph n0 h k n q Ls st) : Go p l e R s m args below meth c Ph n0 h k n pc Ls (.null :: st) :=
  Go.pl (fun T t A S => XT.ifnonnullNo A C.1 rfl (hb C.2.1 d) rfl (by subst hq; exact S)) K
theorem g_acmp_eq (C : Cx p s m meth c Z own nm code ml ret) {x y : Value} {o : Int} {q' : Nat} (d : decode code pc = .ok (.if_acmp .eq o, 3)) (hx' : x.isRef = true) (hy' : y.isRef = true) (ho : 0 ≤ (pc : Int) + o) (hq' : ((pc : Int) + o).toNat = q') (hq : pc + 3 = q)
    (K1 : x = y → Go p l e R s m args below meth c Ph n0 h k n q' Ls st) (K2 : ¬ x = y → Go p l e R s m args below meth c Ph n0 h k n q Ls st) : Go p l e R s m args below meth c Ph n0 h k n pc Ls (y :: x :: st) := by
  by_cases hh : x = y
  · exact Go.pl (fun T t A S => XT.acmpYes A C.1 rfl rfl (hb C.2.1 d) rfl hx' hy' (by simpa [XT.acmp] using hh) ho hq' S) (K1 hh)
  · exact Go.pl (fun T t A S => XT.acmpNo A C.1 rfl (hb C.2.1 d) rfl hx' hy' (by simpa [XT.acmp] using hh) (by subst hq; exact S)) (K2 (by simpa using hh))
theorem g_acmp_ne (C : Cx p s m meth c Z own nm code ml ret) {x y : Value} {o : Int} {q' : Nat} (d : decode code pc = .ok (.if_acmp .ne o, 3)) (hx' : x.isRef = true) (hy' : y.isRef = true) (ho : 0 ≤ (pc : Int) + o) (hq' : ((pc : Int) + o).toNat = q') (hq : pc + 3 = q)
    (K1 : ¬ x = y → Go p l e R s m args below meth c Ph n0 h k n q' Ls st) (K2 : x = y → Go p l e R s m args below meth c Ph n0 h k n q Ls st) : Go p l e R s m args below meth c Ph n0 h k n pc Ls (y :: x :: st) := by
  by_cases hh : ¬ x = y
  · exact Go.pl (fun T t A S => XT.acmpYes A C.1 rfl rfl (hb C.2.1 d) rfl hx' hy' (by simpa [XT.acmp] using hh) ho hq' S) (K1 hh)
  · exact Go.pl (fun T t A S => XT.acmpNo A C.1 rfl (hb C.2.1 d) rfl hx' hy' (by simpa [XT.acmp] using hh) (by subst hq; exact S)) (K2 (by simpa using hh))
theorem g_getf (C : Cx p s m meth c Z own nm code ml ret) {R0 O f d' host : String} {index : Nat} {a : Addr} {v : Value} (d : decode code pc = .ok (.getfield index, 3)) (w : (Cond.fieldLink own index R0 f d').before a0 Z = true ∨ (Cond.fieldLinkNest own index R0 f d' host).before a0 Z = true) (via : Via Z R0 O f d') (F : Fld Z h a O f d' v) (hq : pc + 3 = q)
    (K : Go p l e R s m args below meth c Ph n0 h k n q Ls (v :: st)) : Go p l e R s m args below meth c Ph n0 h k n pc Ls (.ref a :: st) := fun T locs X N eT => by
  obtain ⟨T', X', e', stp⟩ := getF X C.1 C.2.2.2.2.1 C.2.2.2.1 w via eT F (g := mkF m pc Ls (.ref a :: st)) rfl rfl (hb C.2.1 d)
  obtain ⟨s₂, v, S, r⟩ := K T' locs X' N e'
  exact ⟨s₂, v, stp _ (by subst hq; exact S), r⟩
theorem g_gets (C : Cx p s m meth c Z own nm code ml ret) {R0 O f d' host : String} {index : Nat} {v : Value} (d : decode code pc = .ok (.getstatic index, 3)) (w : (Cond.fieldLink own index R0 f d').before a0 Z = true ∨ (Cond.fieldLinkNest own index R0 f d' host).before a0 Z = true) (via : Via Z R0 O f d') (F : Sta Z h O f d' v) (hq : pc + 3 = q)
    (K : Go p l e R s m args below meth c Ph n0 h k n q Ls (v :: st)) : Go p l e R s m args below meth c Ph n0 h k n pc Ls st := fun T locs X N eT => by
  obtain ⟨T', X', e', stp⟩ := getS2 X C.1 C.2.2.2.2.1 C.2.2.2.1 w via eT F (g := mkF m pc Ls st) rfl (hb C.2.1 d)
  obtain ⟨s₂, v, S, r⟩ := K T' locs X' N e'
  exact ⟨s₂, v, stp _ (by subst hq; exact S), r⟩
theorem g_putf (C : Cx p s m meth c Z own nm code ml ret) {R0 O f d' host Cl : String} {index kk : Nat} {a : Addr} {v old : Value} {ty : FieldType} (d : decode code pc = .ok (.putfield index, 3)) (w : (Cond.fieldLink own index R0 f d').before a0 Z = true ∨ (Cond.fieldLinkNest own index R0 f d' host).before a0 Z = true) (via : Via Z R0 O f d') (F : Fld Z h a O f d' old) (E : Exa Z h a Cl)
    (L : (Cond.lays Cl O f d').before a0 Z = true ∨ ((Cond.laysFinal Cl O f d').before a0 Z = true ∧ own = O ∧ nm = "<init>")) (wi : (Cond.instantiable Cl kk).before a0 Z = true) (hty : parseFieldDescriptor d' = some ty) (hn : narrow ty v = v) (hf : fits ty v = true) (ha : n0 ≤ a) (hq : pc + 3 = q)
    (K : ∀ h', Wr h h' a (Jvm.RoadKit.slotOf Z O f d') v → Go p l e R s m args below meth c Ph n0 h' k n q Ls st) : Go p l e R s m args below meth c Ph n0 h k n pc Ls (v :: .ref a :: st) := fun T locs X N eT => by
  obtain ⟨T', h', X', e', W, stp⟩ := putF X C.1 C.2.2.2.2.1 C.2.2.2.1 w via eT F E (L.imp id fun q => ⟨q.1, q.2.1, C.2.2.2.2.2.1.trans q.2.2⟩) wi hty hn hf (g := mkF m pc Ls (v :: .ref a :: st)) rfl rfl (hb C.2.1 d)
  obtain ⟨s₂, v, S, r⟩ := K h' W T' _ X' (Fr.snoc X' N ha) e'
  exact ⟨s₂, v, stp _ (by subst hq; exact S), r⟩
theorem g_new (C : Cx p s m meth c Z own nm code ml ret) {Cl : String} {index nn : Nat} (d : decode code pc = .ok (.new index, 3)) (w : (Cond.classLink own index Cl).before a0 Z = true) (wi : (Cond.instantiable Cl nn).before a0 Z = true) (wz : (Cond.initialized Cl).before a0 Z = true) (hc : k + 1 ≤ R.cells) (hl : n + nn ≤ R.slots) (hq : pc + 3 = q)
    (K : ∀ (a : Addr) (h' : Heap), a = h.size → Ext h h' → Exa Z h' a Cl → (∀ {O f d' : String} {ty : FieldType}, Laid Z a0 Cl O f d' → parseFieldDescriptor d' = some ty → Fld Z h' a O f d' (defaultValue ty)) → Go p l e R s m args below meth c Ph n0 h' (k + 1) (n + nn) q Ls (.ref a :: st)) : Go p l e R s m args below meth c Ph n0 h k n pc Ls st := fun T locs X N eT => by
  obtain ⟨T', h', X', e', E, A, D, -, stp⟩ := newO X C.1 C.2.2.2.2.1 C.2.2.2.1 w wi wz eT (g := mkF m pc Ls st) rfl (hb C.2.1 d) hc hl
  obtain ⟨s₂, v, S, r⟩ := K _ h' rfl E A D T' locs X' N e'
  exact ⟨s₂, v, stp _ (by subst hq; exact S), r⟩
theorem g_newarray (C : Cx p s m meth c Z own nm code ml ret) {aty : ArrayType} {N' : Int32} {cap : Nat} (d : decode code pc = .ok (.newarray aty, 2)) (w : (Cond.arrayClass (newarray.typeOf aty)).before a0 Z = true) (hn : ¬ N' < 0) (hcap : N'.toNatClampNeg ≤ cap) (hbg : cap * 8 ≤ 536870912) (hc : k + 1 ≤ R.cells) (hl : n + cap ≤ R.slots) (hq : pc + 2 = q)
    (K : ∀ (a : Addr) (h' : Heap) (cA : ClassId), a = h.size → Ext h h' → Arr Z h' a (newA cA (newarray.typeOf aty) N') (newarray.typeOf aty) → Go p l e R s m args below meth c Ph n0 h' (k + 1) (n + cap) q Ls (.ref a :: st)) : Go p l e R s m args below meth c Ph n0 h k n pc Ls (.int N' :: st) := fun T locs X N eT => by
  obtain ⟨T', h', cA, X', e', E, A, stp⟩ := newP X C.1 C.2.2.2.2.1 w eT (g := mkF m pc Ls (.int N' :: st)) rfl (hb C.2.1 d) rfl hn hcap hbg hc hl
  obtain ⟨s₂, v, S, r⟩ := K _ h' cA rfl E A T' locs X' N e'
  exact ⟨s₂, v, stp _ (by subst hq; exact S), r⟩
theorem g_anewarray (C : Cx p s m meth c Z own nm code ml ret) {Cl : String} {index : Nat} {N' : Int32} {cap : Nat} (d : decode code pc = .ok (.anewarray index, 3)) (w1 : (Cond.classLink own index Cl).before a0 Z = true) (w2 : (Cond.arrayOver (.object Cl)).before a0 Z = true) (hn : ¬ N' < 0) (hcap : N'.toNatClampNeg ≤ cap) (hbg : cap * 8 ≤ 536870912) (hc : k + 1 ≤ R.cells) (hl : n + cap ≤ R.slots) (hq : pc + 3 = q)
    (K : ∀ (a : Addr) (h' : Heap) (cA : ClassId), a = h.size → Ext h h' → Arr Z h' a (newA cA (.object Cl) N') (.object Cl) → Ovr Z cA Cl → Go p l e R s m args below meth c Ph n0 h' (k + 1) (n + cap) q Ls (.ref a :: st)) : Go p l e R s m args below meth c Ph n0 h k n pc Ls (.int N' :: st) := fun T locs X N eT => by
  obtain ⟨T', h', cA, X', e', E, A, O, stp⟩ := newR X C.1 C.2.2.2.2.1 C.2.2.2.1 w1 w2 eT (g := mkF m pc Ls (.int N' :: st)) rfl (hb C.2.1 d) rfl hn hcap hbg hc hl
  obtain ⟨s₂, v, S, r⟩ := K _ h' cA rfl E A O T' locs X' N e'
  exact ⟨s₂, v, stp _ (by subst hq; exact S), r⟩
theorem g_initO (C : Cx p s m meth c Z own nm code ml ret) {idx : Nat} {a : Addr} {W : Nat} (d : decode code pc = .ok (.invokespecial idx, 3)) (w1 : (Cond.methodLink own idx Lib.objectInit).before a0 Z = true) (w2 : (Cond.instanceMethod Lib.objectInit).before a0 Z = true) (w3 : (Cond.code Lib.objectInit ⟨#[0xb1]⟩ 1 none).before a0 Z = true)
    (hsz : Ls.size = ml) (hf : 1 ≤ R.frames) (hW : (st.map fun v => v.category).sum = W) (hl : W + 12 ≤ R.locals) (hq : pc + 3 = q) (K : Go p l e R s m args below meth c Ph n0 h k n q Ls st) : Go p l e R s m args below meth c Ph n0 h k n pc Ls (.ref a :: st) := fun T locs X N eT => by
  obtain ⟨T', X', e', stp⟩ := initO X C.1 C.2.2.2.2.1 C.2.2.2.1 w1 w2 w3 eT (g := mkF m pc Ls (.ref a :: st)) rfl (hsz.trans C.2.2.1.symm) rfl (hb C.2.1 d) hf (W := W) (by show 2 * 0 + _ ≤ _; rw [hW]; omega) hl
  obtain ⟨s₂, v, S, r⟩ := K T' locs X' N e'
  exact ⟨s₂, v, stp _ (by subst hq; exact S), r⟩
theorem g_castY (C : Cx p s m meth c Z own nm code ml ret) {K' : String} {index : Nat} {a : Addr} (d : decode code pc = .ok (.checkcast index, 3)) (w : (Cond.classLink own index K').before a0 Z = true) (F : Ins Z h a K' true) (hq : pc + 3 = q) (K : Go p l e R s m args below meth c Ph n0 h k n q Ls (.ref a :: st)) : Go p l e R s m args below meth c Ph n0 h k n pc Ls (.ref a :: st) := fun T locs X N eT => by
  obtain ⟨T', X', e', stp⟩ := castY X C.1 C.2.2.2.2.1 C.2.2.2.1 w eT F (g := mkF m pc Ls (.ref a :: st)) rfl rfl (hb C.2.1 d)
  obtain ⟨s₂, v, S, r⟩ := K T' locs X' N e'
  exact ⟨s₂, v, stp _ (by subst hq; exact S), r⟩
theorem g_instY (C : Cx p s m meth c Z own nm code ml ret) {K' : String} {index : Nat} {a : Addr} (d : decode code pc = .ok (.instanceof index, 3)) (w : (Cond.classLink own index K').before a0 Z = true) (F : Ins Z h a K' true) (hq : pc + 3 = q) (K : Go p l e R s m args below meth c Ph n0 h k n q Ls (.int 1 :: st)) : Go p l e R s m args below meth c Ph n0 h k n pc Ls (.ref a :: st) := fun T locs X N eT => by
  obtain ⟨T', X', e', stp⟩ := instY X C.1 C.2.2.2.2.1 C.2.2.2.1 w eT F (g := mkF m pc Ls (.ref a :: st)) rfl rfl (hb C.2.1 d)
  obtain ⟨s₂, v, S, r⟩ := K T' locs X' N e'
  exact ⟨s₂, v, stp _ (by subst hq; exact S), r⟩
theorem g_ldcInt (C : Cx p s m meth c Z own nm code ml ret) {index : Nat} {v : Int32} (d : decode code pc = .ok (.ldc index, 2)) (w : (Cond.constant own index v).before a0 Z = true) (hq : pc + 2 = q) (K : Go p l e R s m args below meth c Ph n0 h k n q Ls (.int v :: st)) : Go p l e R s m args below meth c Ph n0 h k n pc Ls st := fun T locs X N eT => by
  obtain ⟨s₂, v', S, r⟩ := K T locs X N eT
  exact ⟨s₂, v', X.ldcInt C.1 C.2.2.2.1 (mvT C.2.2.2.2.1 w) (g := mkF m pc Ls st) rfl (hb C.2.1 d) _ (by subst hq; exact S), r⟩
theorem g_ldc2Long (C : Cx p s m meth c Z own nm code ml ret) {index : Nat} {v : Int64} (d : decode code pc = .ok (.ldc2_w index, 3)) (w : (Cond.constantLong own index v).before a0 Z = true) (hq : pc + 3 = q) (K : Go p l e R s m args below meth c Ph n0 h k n q Ls (.long v :: st)) : Go p l e R s m args below meth c Ph n0 h k n pc Ls st := fun T locs X N eT => by
  obtain ⟨s₂, v', S, r⟩ := K T locs X N eT
  exact ⟨s₂, v', X.ldc2Long C.1 C.2.2.2.1 (mvT C.2.2.2.2.1 w) (g := mkF m pc Ls st) rfl (hb C.2.1 d) _ (by subst hq; exact S), r⟩
/-- an array of N places; place j holds f j -/
def Av (Z : State) (h : Heap) (a : Addr) (ty : FieldType) (N : Nat) (f : Nat → Value) : Prop := ∃ c : Cell, Arr Z h a c ty ∧ c.slots.size = N ∧ N < 2 ^ 31 ∧ ∀ j, j < N → c.slots[j]? = some (f j)
theorem Av.ext {h' : Heap} {a : Addr} {ty : FieldType} {N : Nat} {f : Nat → Value} (A : Av Z h a ty N f) (E : Ext h h') : Av Z h' a ty N f := by obtain ⟨c, A, r⟩ := A; exact ⟨c, A.ext E, r⟩
theorem Av.lt {a : Addr} {ty : FieldType} {N : Nat} {f : Nat → Value} (A : Av Z h a ty N f) : a < h.size := by obtain ⟨c, A, r⟩ := A; exact A.lt
theorem Av.other {h' : Heap} {a b : Addr} {ty : FieldType} {N sl : Nat} {v : Value} {f : Nat → Value} (A : Av Z h b ty N f) (W : Wr h h' a sl v) (ne : b ≠ a) : Av Z h' b ty N f := by obtain ⟨c, A, r⟩ := A; exact ⟨c, A.other W ne, r⟩
theorem Av.keep {h' : Heap} {a : Addr} {ty : FieldType} {N : Nat} {f : Nat → Value} {ws : List Addr} (A : Av Z h a ty N f) (K : Keep h h' ws) (ne : a ∉ ws) : Av Z h' a ty N f := by obtain ⟨c, A, r⟩ := A; exact ⟨c, ⟨K.2.1 a c A.1 ne, A.2⟩, r⟩
theorem Av.congr {a : Addr} {ty : FieldType} {N : Nat} {f g : Nat → Value} (A : Av Z h a ty N f) (hfg : ∀ j, j < N → f j = g j) : Av Z h a ty N g := by obtain ⟨c, A, r1, r2, r3⟩ := A; exact ⟨c, A, r1, r2, fun j hj => by rw [r3 j hj, hfg j hj]⟩
theorem Av.set {h' : Heap} {a : Addr} {ty : FieldType} {N i : Nat} {v : Value} {f : Nat → Value} (A : Av Z h a ty N f) (W : Wr h h' a i v) (hi : i < N) : Av Z h' a ty N (fun j => if j = i then v else f j) := by
  obtain ⟨c, A, r1, r2, r3⟩ := A
  refine ⟨c.setSlot i v, A.same W, by rw [sz_set]; exact r1, r2, fun j hj => ?_⟩
  by_cases e : j = i
  · subst e; simp [Cell.setSlot, r1, hi]
  · show (c.setSlot i v).slots[j]? = some (if j = i then v else f j)
    rw [if_neg e, ← r3 j hj]; simp [Cell.setSlot, Array.getElem?_setIfInBounds_ne (Ne.symm e)]
theorem Av.new {a : Addr} {ty : FieldType} {cA : ClassId} {N' : Int32} (A : Arr Z h a (newA cA ty N') ty) (hn : ¬ N' < 0) : Av Z h a ty N'.toNatClampNeg (fun _ => defaultValue ty) :=
  ⟨_, A, sz_new _ _ _, (back32 hn).2, fun j hj => by simp [newA, hj]⟩
theorem Av.ne_exa {a b : Addr} {ty : FieldType} {N kk : Nat} {f : Nat → Value} {Cl : String} (A : Av Z h a ty N f) (E : Exa Z h b Cl) (wi : (Cond.instantiable Cl kk).before a0 Z = true) : a ≠ b := by obtain ⟨c, A, r⟩ := A; exact Ne.symm (ne_arr E wi A)
theorem i32_idx {i N : Nat} (hi : i < N) (hN : N < 2 ^ 31) {c : Cell} (hc : c.slots.size = N) : (¬ (Int32.ofNat i < 0 ∨ c.slots.size ≤ (Int32.ofNat i).toNatClampNeg)) ∧ (Int32.ofNat i).toNatClampNeg = i := by
  have e : (Int32.ofNat i).toNatClampNeg = i := Int32.toNatClampNeg_ofNat_of_lt (by omega)
  refine ⟨?_, e⟩
  rw [e, hc]
  rintro (q | q)
  · have := Int32.lt_iff_toInt_lt.mp q
    rw [Int32.toInt_ofNat_of_lt (by omega)] at this
    simp at this
    omega
  · omega
theorem g_iaload (C : Cx p s m meth c Z own nm code ml ret) {a : Addr} {N i : Nat} {f : Nat → Value} {j : Int32} {v : Value} (d : decode code pc = .ok (.iaload, 1)) (A : Av Z h a .int N f) (hi : i < N) (hj : j = Int32.ofNat i) (hv : f i = v) (hq : pc + 1 = q) (K : Go p l e R s m args below meth c Ph n0 h k n q Ls (v :: st)) : Go p l e R s m args below meth c Ph n0 h k n pc Ls (.int j :: .ref a :: st) := fun T locs X N' eT => by
  obtain ⟨c', A, r1, r2, r3⟩ := A
  obtain ⟨g1, g2⟩ := i32_idx hi r2 r1
  obtain ⟨s₂, v', S, r⟩ := K T locs X N' eT
  subst hj hv
  exact ⟨s₂, v', X.iaload C.1 (by rw [eT]; exact A.1) (State.isArrayOf_alike C.2.2.2.2.1.alike A.2.1) A.2.2 g1 (by rw [g2]; exact r3 i hi) (g := mkF m pc Ls _) rfl rfl (hb C.2.1 d) _ (by subst hq; exact S), r⟩
theorem g_laload (C : Cx p s m meth c Z own nm code ml ret) {a : Addr} {N i : Nat} {f : Nat → Value} {j : Int32} {v : Value} (d : decode code pc = .ok (.laload, 1)) (A : Av Z h a .long N f) (hi : i < N) (hj : j = Int32.ofNat i) (hv : f i = v) (hq : pc + 1 = q) (K : Go p l e R s m args below meth c Ph n0 h k n q Ls (v :: st)) : Go p l e R s m args below meth c Ph n0 h k n pc Ls (.int j :: .ref a :: st) := fun T locs X N' eT => by
  obtain ⟨c', A, r1, r2, r3⟩ := A
  obtain ⟨g1, g2⟩ := i32_idx hi r2 r1
  obtain ⟨s₂, v', S, r⟩ := K T locs X N' eT
  subst hj hv
  exact ⟨s₂, v', X.laload C.1 (by rw [eT]; exact A.1) (State.isArrayOf_alike C.2.2.2.2.1.alike A.2.1) A.2.2 g1 (by rw [g2]; exact r3 i hi) (g := mkF m pc Ls _) rfl rfl (hb C.2.1 d) _ (by subst hq; exact S), r⟩
theorem g_caload (C : Cx p s m meth c Z own nm code ml ret) {a : Addr} {N i : Nat} {f : Nat → Value} {j : Int32} {v : Value} (d : decode code pc = .ok (.caload, 1)) (A : Av Z h a .char N f) (hi : i < N) (hj : j = Int32.ofNat i) (hv : f i = v) (hq : pc + 1 = q) (K : Go p l e R s m args below meth c Ph n0 h k n q Ls (v :: st)) : Go p l e R s m args below meth c Ph n0 h k n pc Ls (.int j :: .ref a :: st) := fun T locs X N' eT => by
  obtain ⟨c', A, r1, r2, r3⟩ := A
  obtain ⟨g1, g2⟩ := i32_idx hi r2 r1
  obtain ⟨s₂, v', S, r⟩ := K T locs X N' eT
  subst hj hv
  exact ⟨s₂, v', X.caload C.1 (by rw [eT]; exact A.1) (State.isArrayOf_alike C.2.2.2.2.1.alike A.2.1) A.2.2 g1 (by rw [g2]; exact r3 i hi) (g := mkF m pc Ls _) rfl rfl (hb C.2.1 d) _ (by subst hq; exact S), r⟩
theorem g_baload (C : Cx p s m meth c Z own nm code ml ret) {a : Addr} {N i : Nat} {f : Nat → Value} {j : Int32} {v : Value} (d : decode code pc = .ok (.baload, 1)) (A : Av Z h a .byte N f) (hi : i < N) (hj : j = Int32.ofNat i) (hv : f i = v) (hq : pc + 1 = q) (K : Go p l e R s m args below meth c Ph n0 h k n q Ls (v :: st)) : Go p l e R s m args below meth c Ph n0 h k n pc Ls (.int j :: .ref a :: st) := fun T locs X N' eT => by
  obtain ⟨c', A, r1, r2, r3⟩ := A
  obtain ⟨g1, g2⟩ := i32_idx hi r2 r1
  obtain ⟨s₂, v', S, r⟩ := K T locs X N' eT
  subst hj hv
  exact ⟨s₂, v', X.baloadBytes C.1 (by rw [eT]; exact A.1) (State.isArrayOf_alike C.2.2.2.2.1.alike A.2.1) A.2.2 g1 (by rw [g2]; exact r3 i hi) (g := mkF m pc Ls _) rfl rfl (hb C.2.1 d) _ (by subst hq; exact S), r⟩
theorem g_aaload (C : Cx p s m meth c Z own nm code ml ret) {a : Addr} {N i : Nat} {f : Nat → Value} {j : Int32} {v : Value} {ty : FieldType} (d : decode code pc = .ok (.aaload, 1)) (A : Av Z h a ty N f) (hty : ty.isReference = true) (hi : i < N) (hj : j = Int32.ofNat i) (hv : f i = v) (hq : pc + 1 = q) (K : Go p l e R s m args below meth c Ph n0 h k n q Ls (v :: st)) : Go p l e R s m args below meth c Ph n0 h k n pc Ls (.int j :: .ref a :: st) := fun T locs X N' eT => by
  obtain ⟨c', A, r1, r2, r3⟩ := A
  obtain ⟨g1, g2⟩ := i32_idx hi r2 r1
  obtain ⟨s₂, v', S, r⟩ := K T locs X N' eT
  subst hj hv
  exact ⟨s₂, v', X.aaload C.1 (by rw [eT]; exact A.1) (State.isArrayOf_alike C.2.2.2.2.1.alike A.2.1) hty A.2.2 g1 (by rw [g2]; exact r3 i hi) (g := mkF m pc Ls _) rfl rfl (hb C.2.1 d) _ (by subst hq; exact S), r⟩
theorem g_alen (C : Cx p s m meth c Z own nm code ml ret) {a : Addr} {N : Nat} {f : Nat → Value} {ty : FieldType} {z : Int32} (d : decode code pc = .ok (.arraylength, 1)) (A : Av Z h a ty N f) (hz : Int32.ofNat N = z) (hq : pc + 1 = q) (K : Go p l e R s m args below meth c Ph n0 h k n q Ls (.int z :: st)) : Go p l e R s m args below meth c Ph n0 h k n pc Ls (.ref a :: st) := fun T locs X N' eT => by
  obtain ⟨c', A, r1, r2, r3⟩ := A
  obtain ⟨s₂, v', S, r⟩ := K T locs X N' eT
  refine ⟨s₂, v', X.arraylength C.1 (by rw [eT]; exact A.1) (State.isArrayOf_alike C.2.2.2.2.1.alike A.2.1) (g := mkF m pc Ls _) rfl rfl (hb C.2.1 d) _ ?_, r⟩
  subst hq hz
  rw [r1]
  exact S
theorem g_iastore (C : Cx p s m meth c Z own nm code ml ret) {a : Addr} {N i : Nat} {f : Nat → Value} {j : Int32} {x : Int32} (d : decode code pc = .ok (.iastore, 1)) (A : Av Z h a .int N f) (hi : i < N) (hj : j = Int32.ofNat i) (ha : n0 ≤ a) (hq : pc + 1 = q)
    (K : ∀ h', Wr h h' a i (.int x) → Av Z h' a .int N (fun j => if j = i then (.int x) else f j) → Go p l e R s m args below meth c Ph n0 h' k n q Ls st) : Go p l e R s m args below meth c Ph n0 h k n pc Ls (.int x :: .int j :: .ref a :: st) := fun T locs X N' eT => by
  have A' := A
  obtain ⟨c', A, r1, r2, r3⟩ := A
  obtain ⟨g1, g2⟩ := i32_idx hi r2 r1
  subst hj
  obtain ⟨T', h', X', e', W, stp⟩ := stI X C.1 C.2.2.2.2.1 eT A g1 (g := mkF m pc Ls (.int x :: .int (Int32.ofNat i) :: .ref a :: st)) rfl rfl (hb C.2.1 d)
  have N2 := Fr.snoc X' N' ha
  rw [g2] at W
  obtain ⟨s₂, v, S, r⟩ := K h' W (A'.set W hi) T' _ X' N2 e'
  exact ⟨s₂, v, stp _ (by subst hq; exact S), r⟩
theorem g_lastore (C : Cx p s m meth c Z own nm code ml ret) {a : Addr} {N i : Nat} {f : Nat → Value} {j : Int32} {x : Int64} (d : decode code pc = .ok (.lastore, 1)) (A : Av Z h a .long N f) (hi : i < N) (hj : j = Int32.ofNat i) (ha : n0 ≤ a) (hq : pc + 1 = q)
    (K : ∀ h', Wr h h' a i (.long x) → Av Z h' a .long N (fun j => if j = i then (.long x) else f j) → Go p l e R s m args below meth c Ph n0 h' k n q Ls st) : Go p l e R s m args below meth c Ph n0 h k n pc Ls (.long x :: .int j :: .ref a :: st) := fun T locs X N' eT => by
  have A' := A
  obtain ⟨c', A, r1, r2, r3⟩ := A
  obtain ⟨g1, g2⟩ := i32_idx hi r2 r1
  subst hj
  obtain ⟨T', h', X', e', W, stp⟩ := stJ X C.1 C.2.2.2.2.1 eT A g1 (g := mkF m pc Ls (.long x :: .int (Int32.ofNat i) :: .ref a :: st)) rfl rfl (hb C.2.1 d)
  have N2 := Fr.snoc X' N' ha
  rw [g2] at W
  obtain ⟨s₂, v, S, r⟩ := K h' W (A'.set W hi) T' _ X' N2 e'
  exact ⟨s₂, v, stp _ (by subst hq; exact S), r⟩
theorem g_castore (C : Cx p s m meth c Z own nm code ml ret) {a : Addr} {N i : Nat} {f : Nat → Value} {j : Int32} {x : Int32} (d : decode code pc = .ok (.castore, 1)) (A : Av Z h a .char N f) (hi : i < N) (hj : j = Int32.ofNat i) (ha : n0 ≤ a) (hq : pc + 1 = q)
    (K : ∀ h', Wr h h' a i (.int (nar .char x)) → Av Z h' a .char N (fun j => if j = i then (.int (nar .char x)) else f j) → Go p l e R s m args below meth c Ph n0 h' k n q Ls st) : Go p l e R s m args below meth c Ph n0 h k n pc Ls (.int x :: .int j :: .ref a :: st) := fun T locs X N' eT => by
  have A' := A
  obtain ⟨c', A, r1, r2, r3⟩ := A
  obtain ⟨g1, g2⟩ := i32_idx hi r2 r1
  subst hj
  obtain ⟨T', h', X', e', W, stp⟩ := stC X C.1 C.2.2.2.2.1 eT A g1 (g := mkF m pc Ls (.int x :: .int (Int32.ofNat i) :: .ref a :: st)) rfl rfl (hb C.2.1 d)
  have N2 := Fr.snoc X' N' ha
  rw [g2] at W
  obtain ⟨s₂, v, S, r⟩ := K h' W (A'.set W hi) T' _ X' N2 e'
  exact ⟨s₂, v, stp _ (by subst hq; exact S), r⟩
theorem g_bastore (C : Cx p s m meth c Z own nm code ml ret) {a : Addr} {N i : Nat} {f : Nat → Value} {j : Int32} {x : Int32} (d : decode code pc = .ok (.bastore, 1)) (A : Av Z h a .byte N f) (hi : i < N) (hj : j = Int32.ofNat i) (ha : n0 ≤ a) (hq : pc + 1 = q)
    (K : ∀ h', Wr h h' a i (.int (nar .byte x)) → Av Z h' a .byte N (fun j => if j = i then (.int (nar .byte x)) else f j) → Go p l e R s m args below meth c Ph n0 h' k n q Ls st) : Go p l e R s m args below meth c Ph n0 h k n pc Ls (.int x :: .int j :: .ref a :: st) := fun T locs X N' eT => by
  have A' := A
  obtain ⟨c', A, r1, r2, r3⟩ := A
  obtain ⟨g1, g2⟩ := i32_idx hi r2 r1
  subst hj
  obtain ⟨T', h', X', e', W, stp⟩ := stB X C.1 C.2.2.2.2.1 eT A g1 (g := mkF m pc Ls (.int x :: .int (Int32.ofNat i) :: .ref a :: st)) rfl rfl (hb C.2.1 d)
  have N2 := Fr.snoc X' N' ha
  rw [g2] at W
  obtain ⟨s₂, v, S, r⟩ := K h' W (A'.set W hi) T' _ X' N2 e'
  exact ⟨s₂, v, stp _ (by subst hq; exact S), r⟩
theorem g_aastore (C : Cx p s m meth c Z own nm code ml ret) {a : Addr} {N i : Nat} {f : Nat → Value} {j : Int32} {x : Value} {ty : FieldType} (d : decode code pc = .ok (.aastore, 1)) (A : Av Z h a ty N f) (hi : i < N) (hj : j = Int32.ofNat i) (hty : ty.isReference = true) (F : Sto Z h a x) (ha : n0 ≤ a) (hq : pc + 1 = q)
    (K : ∀ h', Wr h h' a i x → Av Z h' a ty N (fun j => if j = i then x else f j) → Go p l e R s m args below meth c Ph n0 h' k n q Ls st) : Go p l e R s m args below meth c Ph n0 h k n pc Ls (x :: .int j :: .ref a :: st) := fun T locs X N' eT => by
  have A' := A
  obtain ⟨c', A, r1, r2, r3⟩ := A
  obtain ⟨g1, g2⟩ := i32_idx hi r2 r1
  subst hj
  obtain ⟨T', h', X', e', W, stp⟩ := stR X C.1 C.2.2.2.2.1 eT A g1 hty F (g := mkF m pc Ls (x :: .int (Int32.ofNat i) :: .ref a :: st)) rfl rfl (hb C.2.1 d)
  have N2 := Fr.snoc X' N' ha
  rw [g2] at W
  obtain ⟨s₂, v, S, r⟩ := K h' W (A'.set W hi) T' _ X' N2 e'
  exact ⟨s₂, v, stp _ (by subst hq; exact S), r⟩
/-- a contract: with the arguments as', from the heap hs, the call returns v with Q v (the heap then); the written places lie at or above nf; rm: its room -/
def Ctr (l : Launch) (Z : State) (y : MethodName) (bytes : ByteArray) (maxL : Nat) (rt : Option FieldType) (rm : Room) (as' : Array Value) (hs : Heap) (nf : Nat) (Q : Option Value → Heap → Prop) : Prop :=
  MetFree l y (head1 [Cond.code y bytes maxL rt] rm) (fun a U => a = as' ∧ Z.Warmed39 U.vm ∧ U.heap = hs) (fun _ _ _ _ _ => True) (fun _ U o U' => ∃ v L, o = .returned v ∧ (Q v U'.heap ∧ Fr nf L) ∧ FrameEnd U o U' L rm.cells rm.slots)
/-- what a narrow walk must come to -/
def FinN (s : State) (below : List Frame) (rm : Room) (nf : Nat) (Q : Option Value → Heap → Prop) : State → Option Value → Prop :=
  fun s₂ v => s₂.status = .running ∧ Ended s₂ below (.returned v) ∧ ∃ L, (Q v s₂.heap ∧ Fr nf L) ∧ FrameEnd s (.returned v) s₂ L rm.cells rm.slots
theorem Ctr.of {l : Launch} {Z : State} {y : MethodName} {bytes : ByteArray} {maxL : Nat} {rt : Option FieldType} {rm : Room} {as' : Array Value} {hs : Heap} {nf : Nat} {Q : Option Value → Heap → Prop} {n1 : Nat} (Ls : Array Slot) (hp : plainFor y = true) (hE : ∀ m, entryFrame m as' maxL = mkF m 0 Ls [])
    (B : ∀ (p : Program) (e : Env) (s : State) (m : MethodId) (below : List Frame) (meth : Method) (c : Code), Cx p s m meth c Z y.cls y.name bytes maxL rt → Go p l e rm s m as' below meth c (FinN s below rm nf Q) n1 hs 0 0 0 Ls []) : Ctr l Z y bytes maxL rt rm as' hs nf Q := by
  refine MetFree.of_bodySF hp hisR ?_
  intro p e s m args below meth c s₁ Bd hml0 hP hK
  obtain ⟨rfl, hZ, hh⟩ := hP
  have X0 : Stand p l e rm s m _ below meth c s₁ [] 0 0 := Stand.of_body Bd
  have e0 : s₁.heap = hs := by rw [← hh, Bd.state]; rfl
  obtain ⟨s₂, v, S, r1, r2, L, r3, r4⟩ := B p e s m below meth c ⟨Bd.exec, Bd.bytes, hml0, findClass_of_methodNamed Bd.named, hZ, (name_of_methodNamed Bd.named Bd.method).1, Bd.returns, Bd.notSynchronized⟩ s₁ [] X0 (Fr.nil _) e0
  exact ⟨s₂, _, castTop (hE m) S, r1, r2, v, L, rfl, r3, r4⟩
theorem fin_of {T : State} {locs : List Loc} {rm : Room} {nf : Nat} {Q : Option Value → Heap → Prop} {v : Option Value} {st' : List Value} (C : Cx p s m meth c Z own nm code ml ret) (X : Stand p l e R s m args below meth c T locs k n) (N : Fr n0 locs) (eT : T.heap = h) (hv : ret = none → v = none) (hn : nf ≤ n0) (hk : k ≤ rm.cells) (hl : n ≤ rm.slots) (hQ : Q v h)
    (H : ∀ fs, (∀ (f : JFrame) (acts : List Action), f.method = m → f.locked = none → f.entered = [] → (doReturn e (T.setTop f) acts v).1 = T.setFrames fs) → Steps p.tables e below (T.setTop (mkF m pc Ls st')) (T.setFrames fs)) :
    ∃ s₂ v, Steps p.tables e below (T.setTop (mkF m pc Ls st')) s₂ ∧ FinN s below rm nf Q s₂ v := by
  obtain ⟨fs, hr, hrun, hended, hW, hsame⟩ := X.leave (v := v) (fun hh => hv (C.2.2.2.2.2.2.1.symm.trans hh)) C.2.2.2.2.2.2.2
  exact ⟨_, v, H fs hr, hrun, hended, locs, ⟨by rw [show (T.setFrames fs).heap = h from eT]; exact hQ, fun y hy => Nat.le_trans hn (N y hy)⟩, ⟨v, rfl⟩, hW, hsame.mono hk hl⟩
theorem g_return {rm : Room} {nf : Nat} {Q : Option Value → Heap → Prop} (C : Cx p s m meth c Z own nm code ml none) (d : decode code pc = .ok (.return_, 1)) (hn : nf ≤ n0) (hk : k ≤ rm.cells) (hl : n ≤ rm.slots) (hQ : Q none h) : Go p l e R s m args below meth c (FinN s below rm nf Q) n0 h k n pc Ls [] :=
  fun T locs X N eT => fin_of C X N eT (fun _ => rfl) hn hk hl hQ fun fs hr => X.returnOut C.1 C.2.2.2.2.2.2.1 (hb C.2.1 d) hr
theorem g_ireturn {rm : Room} {nf : Nat} {Q : Option Value → Heap → Prop} {x : Int32} (C : Cx p s m meth c Z own nm code ml (some .int)) (d : decode code pc = .ok (.ireturn, 1)) (hn : nf ≤ n0) (hk : k ≤ rm.cells) (hl : n ≤ rm.slots) (hQ : Q (some (.int x)) h) : Go p l e R s m args below meth c (FinN s below rm nf Q) n0 h k n pc Ls (.int x :: st) :=
  fun T locs X N eT => fin_of C X N eT (fun hh => nomatch hh) hn hk hl hQ fun fs hr => retI X C.1 C.2.2.2.2.2.2.1 (hb C.2.1 d) hr
theorem g_nreturn {rm : Room} {nf : Nat} {Q : Option Value → Heap → Prop} {x z : Int32} {t : FieldType} (C : Cx p s m meth c Z own nm code ml (some t)) (d : decode code pc = .ok (.ireturn, 1)) (ht : t = .boolean ∨ t = .byte ∨ t = .char ∨ t = .short) (hz : nar t x = z) (hn : nf ≤ n0) (hk : k ≤ rm.cells) (hl : n ≤ rm.slots) (hQ : Q (some (.int z)) h) : Go p l e R s m args below meth c (FinN s below rm nf Q) n0 h k n pc Ls (.int x :: st) :=
  fun T locs X N eT => fin_of (v := some (.int z)) C X N eT (fun hh => nomatch hh) hn hk hl hQ fun fs hr => retN X C.1 C.2.2.2.2.2.2.1 ht (hb C.2.1 d) (by rw [hz]; exact hr)
theorem g_lreturn {rm : Room} {nf : Nat} {Q : Option Value → Heap → Prop} {x : Int64} (C : Cx p s m meth c Z own nm code ml (some .long)) (d : decode code pc = .ok (.lreturn, 1)) (hn : nf ≤ n0) (hk : k ≤ rm.cells) (hl : n ≤ rm.slots) (hQ : Q (some (.long x)) h) : Go p l e R s m args below meth c (FinN s below rm nf Q) n0 h k n pc Ls (.long x :: st) :=
  fun T locs X N eT => fin_of C X N eT (fun hh => nomatch hh) hn hk hl hQ fun fs hr => retOut X C.1 C.2.2.2.2.2.2.1 rfl (Or.inr (Or.inl ⟨rfl, rfl, x, rfl⟩)) (hb C.2.1 d) hr
theorem g_areturn {rm : Room} {nf : Nat} {Q : Option Value → Heap → Prop} {x : Value} {t : FieldType} (C : Cx p s m meth c Z own nm code ml (some t)) (d : decode code pc = .ok (.areturn, 1)) (ht : t.isReference = true) (hx : x.isRef = true) (hn : nf ≤ n0) (hk : k ≤ rm.cells) (hl : n ≤ rm.slots) (hQ : Q (some x) h) : Go p l e R s m args below meth c (FinN s below rm nf Q) n0 h k n pc Ls (x :: st) :=
  fun T locs X N eT => fin_of C X N eT (fun hh => nomatch hh) hn hk hl hQ fun fs hr => retOut X C.1 C.2.2.2.2.2.2.1 (by rcases ref_cases hx with rfl | ⟨a, rfl⟩ <;> cases t <;> first | rfl | cases ht) (Or.inr (Or.inr (Or.inr (Or.inr ⟨rfl, ht, hx⟩)))) (hb C.2.1 d) hr
/-- a callee that pays, at this walk -/
def BK (l : Launch) (R : Room) (p : Program) (e : Env) (below : List Frame) (s : State) (args : Array Value) (y : MethodName) (len W : Nat) (as' : Array Value) (h : Heap) (ck sk n0 : Nat) (Q : Option Value → Heap → Prop) : Prop :=
  Back l R p e below s args y len W (fun A a => a = as' ∧ A.U.heap = h ∧ A.cells + ck ≤ R.cells ∧ A.slots + sk ≤ R.slots) (fun A _ v B => ∃ L, (Q v B.U.heap ∧ Fr n0 L) ∧ B.locs = A.locs ++ L ∧ B.cells = A.cells + ck ∧ B.slots = A.slots + sk)
theorem Ctr.bk {y : MethodName} {bytes : ByteArray} {maxL len W : Nat} {rt : Option FieldType} {rm : Room} {as' : Array Value} {Q : Option Value → Heap → Prop} (M : Ctr l Z y bytes maxL rt rm as' h n0 Q) (C : Cx p s m meth c Z own nm code ml ret) (w4 : (Cond.code y bytes maxL rt).before a0 Z = true) (w3 : (Cond.initialized y.cls).before a0 Z = true) (hf : rm.frames + 1 ≤ R.frames) (hl : W + (maxL + 11) + rm.locals ≤ R.locals) : BK l R p e below s args y len W as' h rm.cells rm.slots n0 Q :=
  backOf (W := W) (Q := fun v h' L => Q v h' ∧ Fr n0 L) M C.2.2.2.2.1 w4 w3 hf hl
theorem g_callS (C : Cx p s m meth c Z own nm code ml ret) {y : MethodName} {bytes : ByteArray} {maxL ck sk : Nat} {rt : Option FieldType} {Q : Option Value → Heap → Prop} {index W : Nat} {argsL : List Value} (d : decode code pc = .ok (.invokestatic index, 3)) (w1 : (Cond.methodLink own index y).before a0 Z = true) (w2 : (Cond.static y).before a0 Z = true) (w3 : (Cond.initialized y.cls).before a0 Z = true) (w4 : (Cond.code y bytes maxL rt).before a0 Z = true) (hy : y.cls ≠ "java/lang/invoke/MethodHandle" ∧ y.cls ≠ "java/lang/invoke/VarHandle")
    (M : BK l R p e below s args y 3 W argsL.toArray h ck sk n0 Q) (hc : k + ck ≤ R.cells) (hs : n + sk ≤ R.slots) (hsz : Ls.size = ml) (hlen : ∀ sig, parseMethodDescriptor y.desc = some sig → argsL.length = sig.parameters.length) (hst : st = argsL.reverse ++ rest) (hW : (rest.map fun v => v.category).sum = W) (hq : pc + 3 = q)
    (K : ∀ v h', Q v h' → ∃ st', st' = v.toList ++ rest ∧ Go p l e R s m args below meth c Ph n0 h' (k + ck) (n + sk) q Ls st') : Go p l e R s m args below meth c Ph n0 h k n pc Ls st := fun T locs X N eT => by
  have hZ := C.2.2.2.2.1
  obtain ⟨v, vm1, ⟨T', L', k', n'⟩, -, X', ⟨L, ⟨hQ, NL⟩, l1, l2, l3⟩, stp⟩ := Jvm.LawKit.callS X C.1 (y := y) C.2.2.2.1 (mvT hZ w1) (mvT hZ w2) (mvT hZ w3) (mvT hZ w4) hy M (g := mkF m pc Ls st) rfl (hsz.trans C.2.2.1.symm) (argsL := argsL) (rest := rest) hlen hst (by show 2 * 0 + _ ≤ _; rw [hW]; omega) (hb C.2.1 d) (fun _ _ => ⟨rfl, eT, hc, hs⟩)
  dsimp only [Pt.U, Pt.locs, Pt.cells, Pt.slots] at X' l1 l2 l3 stp
  subst l1 l2 l3
  obtain ⟨st', hst', K'⟩ := K v _ hQ
  obtain ⟨s₂, v', S, r⟩ := K' _ _ X' (N.app NL) rfl
  exact ⟨s₂, v', stp _ (by subst hq hst'; exact S), r⟩
theorem g_callI (C : Cx p s m meth c Z own nm code ml ret) {y : MethodName} {bytes : ByteArray} {maxL ck sk : Nat} {Q : Option Value → Heap → Prop} {index W : Nat} {argsL : List Value} {a : Addr} (d : decode code pc = .ok (.invokespecial index, 3)) (hy1 : y.name = "<init>") (w1 : (Cond.methodLink own index y).before a0 Z = true) (w2 : (Cond.instanceMethod y).before a0 Z = true) (w4 : (Cond.code y bytes maxL none).before a0 Z = true) (hy : y.cls ≠ "java/lang/invoke/MethodHandle" ∧ y.cls ≠ "java/lang/invoke/VarHandle")
    (M : BK l R p e below s args y 3 W (.ref a :: argsL).toArray h ck sk n0 Q) (hc : k + ck ≤ R.cells) (hs : n + sk ≤ R.slots) (hsz : Ls.size = ml) (hlen : ∀ sig, parseMethodDescriptor y.desc = some sig → argsL.length = sig.parameters.length) (hst : st = argsL.reverse ++ .ref a :: rest) (hW : (rest.map fun v => v.category).sum = W) (hq : pc + 3 = q)
    (K : ∀ v h', Q v h' → ∃ st', st' = v.toList ++ rest ∧ Go p l e R s m args below meth c Ph n0 h' (k + ck) (n + sk) q Ls st') : Go p l e R s m args below meth c Ph n0 h k n pc Ls st := fun T locs X N eT => by
  have hZ := C.2.2.2.2.1
  obtain ⟨v, vm1, ⟨T', L', k', n'⟩, -, X', ⟨L, ⟨hQ, NL⟩, l1, l2, l3⟩, stp⟩ := X.specialBack C.1 (y := y) hy1 C.2.2.2.1 (mvT hZ w1) (mvT hZ w2) (mvT hZ w4) hy M (g := mkF m pc Ls st) rfl (hsz.trans C.2.2.1.symm) (Steps.refl _) (a := a) (argsL := argsL) (rest := rest) hlen hst (by show 2 * 0 + _ ≤ _; rw [hW]; omega) (hb C.2.1 d) (fun _ _ => ⟨rfl, eT, hc, hs⟩)
  dsimp only [Pt.U, Pt.locs, Pt.cells, Pt.slots] at X' l1 l2 l3 stp
  subst l1 l2 l3
  obtain ⟨st', hst', K'⟩ := K v _ hQ
  obtain ⟨s₂, v', S, r⟩ := K' _ _ X' (N.app NL) rfl
  exact ⟨s₂, v', stp.trans (by subst hq hst'; exact S), r⟩
theorem g_callV (C : Cx p s m meth c Z own nm code ml ret) {y : MethodName} {ck sk : Nat} {Q : Option Value → Heap → Prop} {index W : Nat} {argsL : List Value} {y0 : MethodName} {Cl : String} {a : Addr} (d : decode code pc = .ok (.invokevirtual index, 3)) (w1 : (Cond.methodLink own index y0).before a0 Z = true) (w2 : (Cond.declares y0).before a0 Z = true) (w5 : (Cond.selects Cl y0 y).before a0 Z = true) (w6 : (Cond.instanceMethod y).before a0 Z = true) (hy : y0.cls ≠ "java/lang/invoke/MethodHandle" ∧ y0.cls ≠ "java/lang/invoke/VarHandle") (hnf : NotFace s y0)
    (E : Exa Z h a Cl) (M : BK l R p e below s args y 3 W (.ref a :: argsL).toArray h ck sk n0 Q) (hc : k + ck ≤ R.cells) (hs : n + sk ≤ R.slots) (hsz : Ls.size = ml) (hlen : ∀ sig, parseMethodDescriptor y0.desc = some sig → argsL.length = sig.parameters.length) (hst : st = argsL.reverse ++ .ref a :: rest) (hW : (rest.map fun v => v.category).sum = W) (hq : pc + 3 = q)
    (K : ∀ v h', Q v h' → ∃ st', st' = v.toList ++ rest ∧ Go p l e R s m args below meth c Ph n0 h' (k + ck) (n + sk) q Ls st') : Go p l e R s m args below meth c Ph n0 h k n pc Ls st := fun T locs X N eT => by
  have hZ := C.2.2.2.2.1
  obtain ⟨cq, kq, qa, qb, qc⟩ := isOf hZ eT E
  obtain ⟨v, vm1, ⟨T', L', k', n'⟩, -, X', ⟨L, ⟨hQ, NL⟩, l1, l2, l3⟩, stp⟩ := X.virtualBack C.1 (y := y0) (z := y) C.2.2.2.1 (mvT hZ w1) (mvT hZ w2) hnf (mvT hZ w5) (mvT hZ w6) hy M qa qc (g := mkF m pc Ls st) rfl (hsz.trans C.2.2.1.symm) (Steps.refl _) (argsL := argsL) (rest := rest) hlen hst (by show 2 * 0 + _ ≤ _; rw [hW]; omega) (hb C.2.1 d) (fun _ _ => ⟨rfl, eT, hc, hs⟩)
  dsimp only [Pt.U, Pt.locs, Pt.cells, Pt.slots] at X' l1 l2 l3 stp
  subst l1 l2 l3
  obtain ⟨st', hst', K'⟩ := K v _ hQ
  obtain ⟨s₂, v', S, r⟩ := K' _ _ X' (N.app NL) rfl
  exact ⟨s₂, v', stp.trans (by subst hq hst'; exact S), r⟩
theorem g_callVU (C : Cx p s m meth c Z own nm code ml ret) {y : MethodName} {ck sk : Nat} {Q : Option Value → Heap → Prop} {index W : Nat} {argsL : List Value} {y0 : MethodName} {owner : String} {Cl : String} {a : Addr} (d : decode code pc = .ok (.invokevirtual index, 3)) (w1 : (Cond.methodLink own index y0).before a0 Z = true) (ws : (Cond.sameMethod y0.cls owner y0.name y0.desc).before a0 Z = true) (w2 : (Cond.declares ⟨owner, y0.name, y0.desc⟩).before a0 Z = true) (w5 : (Cond.selects Cl y0 y).before a0 Z = true) (w6 : (Cond.instanceMethod y).before a0 Z = true) (hy : owner ≠ "java/lang/invoke/MethodHandle" ∧ owner ≠ "java/lang/invoke/VarHandle")
    (E : Exa Z h a Cl) (M : BK l R p e below s args y 3 W (.ref a :: argsL).toArray h ck sk n0 Q) (hc : k + ck ≤ R.cells) (hs : n + sk ≤ R.slots) (hsz : Ls.size = ml) (hlen : ∀ sig, parseMethodDescriptor y0.desc = some sig → argsL.length = sig.parameters.length) (hst : st = argsL.reverse ++ .ref a :: rest) (hW : (rest.map fun v => v.category).sum = W) (hq : pc + 3 = q)
    (K : ∀ v h', Q v h' → ∃ st', st' = v.toList ++ rest ∧ Go p l e R s m args below meth c Ph n0 h' (k + ck) (n + sk) q Ls st') : Go p l e R s m args below meth c Ph n0 h k n pc Ls st := fun T locs X N eT => by
  have hZ := C.2.2.2.2.1
  obtain ⟨cq, kq, qa, qb, qc⟩ := isOf hZ eT E
  obtain ⟨v, vm1, ⟨T', L', k', n'⟩, -, X', ⟨L, ⟨hQ, NL⟩, l1, l2, l3⟩, stp⟩ := X.virtualBackUp C.1 (x := y0) (y := y) C.2.2.2.1 (mvT hZ w1) (mvT hZ ws) (mvT hZ w2) hy (mvT hZ w5) (mvT hZ w6) M qa qc (g := mkF m pc Ls st) rfl (hsz.trans C.2.2.1.symm) (Steps.refl _) (argsL := argsL) (rest := rest) hlen hst (by show 2 * 0 + _ ≤ _; rw [hW]; omega) (hb C.2.1 d) (fun _ _ => ⟨rfl, eT, hc, hs⟩)
  dsimp only [Pt.U, Pt.locs, Pt.cells, Pt.slots] at X' l1 l2 l3 stp
  subst l1 l2 l3
  obtain ⟨st', hst', K'⟩ := K v _ hQ
  obtain ⟨s₂, v', S, r⟩ := K' _ _ X' (N.app NL) rfl
  exact ⟨s₂, v', stp.trans (by subst hq hst'; exact S), r⟩
theorem g_callP (C : Cx p s m meth c Z own nm code ml ret) {y : MethodName} {bytes : ByteArray} {maxL ck sk : Nat} {rt : Option FieldType} {Q : Option Value → Heap → Prop} {index W : Nat} {argsL : List Value} {Cl : String} {a : Addr} (d : decode code pc = .ok (.invokevirtual index, 3)) (w1 : (Cond.methodLink own index y).before a0 Z = true) (w2 : (Cond.instanceMethod y).before a0 Z = true) {kk : Nat} (wi : (Cond.instantiable y.cls kk).before a0 Z = true) (w4 : (Cond.code y bytes maxL rt).before a0 Z = true) (hy : y.cls ≠ "java/lang/invoke/MethodHandle" ∧ y.cls ≠ "java/lang/invoke/VarHandle") (hpr : s.PrivateAt y)
    (E : Exa Z h a Cl) (M : BK l R p e below s args y 3 W (.ref a :: argsL).toArray h ck sk n0 Q) (hc : k + ck ≤ R.cells) (hs : n + sk ≤ R.slots) (hsz : Ls.size = ml) (hlen : ∀ sig, parseMethodDescriptor y.desc = some sig → argsL.length = sig.parameters.length) (hst : st = argsL.reverse ++ .ref a :: rest) (hW : (rest.map fun v => v.category).sum = W) (hq : pc + 3 = q)
    (K : ∀ v h', Q v h' → ∃ st', st' = v.toList ++ rest ∧ Go p l e R s m args below meth c Ph n0 h' (k + ck) (n + sk) q Ls st') : Go p l e R s m args below meth c Ph n0 h k n pc Ls st := fun T locs X N eT => by
  have hZ := C.2.2.2.2.1
  obtain ⟨ce, hce, hob⟩ := E.cell
  obtain ⟨ci, ki, hci, hki, -, hni, -⟩ := Cond.instantiable_spec (mv (args := args) hZ wi)
  simp only [Bool.or_eq_false_iff] at hni
  have w5 : (Cond.selects y.cls y y).before args s = true := Jvm.Stand.selects_self_of_private hci hki hni.1 hpr (mvT hZ w2) hy
  obtain ⟨v, vm1, ⟨T', L', k', n'⟩, -, X', ⟨L, ⟨hQ, NL⟩, l1, l2, l3⟩, stp⟩ := X.privateBack C.1 (y := y) C.2.2.2.1 (mvT hZ w1) (mvT hZ w2) w5 hpr (mvT hZ w4) hy M (g := mkF m pc Ls st) rfl (hsz.trans C.2.2.1.symm) (Steps.refl _) (a := a) (cell := ce) (by rw [eT]; exact hce) hob (argsL := argsL) (rest := rest) hlen hst (by show 2 * 0 + _ ≤ _; rw [hW]; omega) (hb C.2.1 d) (fun _ _ => ⟨rfl, eT, hc, hs⟩)
  dsimp only [Pt.U, Pt.locs, Pt.cells, Pt.slots] at X' l1 l2 l3 stp
  subst l1 l2 l3
  obtain ⟨st', hst', K'⟩ := K v _ hQ
  obtain ⟨s₂, v', S, r⟩ := K' _ _ X' (N.app NL) rfl
  exact ⟨s₂, v', stp.trans (by subst hq hst'; exact S), r⟩
theorem g_callQ (C : Cx p s m meth c Z own nm code ml ret) {y : MethodName} {bytes : ByteArray} {maxL ck sk : Nat} {rt : Option FieldType} {Q : Option Value → Heap → Prop} {index W : Nat} {argsL : List Value} {Cl : String} {a : Addr} (d : decode code pc = .ok (.invokevirtual index, 3)) (w1 : (Cond.methodLink own index y).before a0 Z = true) (w2 : (Cond.instanceMethod y).before a0 Z = true) {Cs : String} (wsel : (Cond.selects Cs y y).before a0 Z = true) (w4 : (Cond.code y bytes maxL rt).before a0 Z = true) (hy : y.cls ≠ "java/lang/invoke/MethodHandle" ∧ y.cls ≠ "java/lang/invoke/VarHandle") (hpr : s.PrivateAt y)
    (E : Exa Z h a Cl) (M : BK l R p e below s args y 3 W (.ref a :: argsL).toArray h ck sk n0 Q) (hc : k + ck ≤ R.cells) (hs : n + sk ≤ R.slots) (hsz : Ls.size = ml) (hlen : ∀ sig, parseMethodDescriptor y.desc = some sig → argsL.length = sig.parameters.length) (hst : st = argsL.reverse ++ .ref a :: rest) (hW : (rest.map fun v => v.category).sum = W) (hq : pc + 3 = q)
    (K : ∀ v h', Q v h' → ∃ st', st' = v.toList ++ rest ∧ Go p l e R s m args below meth c Ph n0 h' (k + ck) (n + sk) q Ls st') : Go p l e R s m args below meth c Ph n0 h k n pc Ls st := fun T locs X N eT => by
  have hZ := C.2.2.2.2.1
  obtain ⟨ce, hce, hob⟩ := E.cell
  obtain ⟨c2, r2, m2, -, -, q3, -, kP, hkP, hkPi⟩ := Cond.selects_spec (mvT (args := args) hZ wsel)
  have w5 : (Cond.selects y.cls y y).before args s = true := Jvm.Stand.selects_self_of_private (findClass_of_methodNamed q3) hkP hkPi hpr (mvT hZ w2) hy
  obtain ⟨v, vm1, ⟨T', L', k', n'⟩, -, X', ⟨L, ⟨hQ, NL⟩, l1, l2, l3⟩, stp⟩ := X.privateBack C.1 (y := y) C.2.2.2.1 (mvT hZ w1) (mvT hZ w2) w5 hpr (mvT hZ w4) hy M (g := mkF m pc Ls st) rfl (hsz.trans C.2.2.1.symm) (Steps.refl _) (a := a) (cell := ce) (by rw [eT]; exact hce) hob (argsL := argsL) (rest := rest) hlen hst (by show 2 * 0 + _ ≤ _; rw [hW]; omega) (hb C.2.1 d) (fun _ _ => ⟨rfl, eT, hc, hs⟩)
  dsimp only [Pt.U, Pt.locs, Pt.cells, Pt.slots] at X' l1 l2 l3 stp
  subst l1 l2 l3
  obtain ⟨st', hst', K'⟩ := K v _ hQ
  obtain ⟨s₂, v', S, r⟩ := K' _ _ X' (N.app NL) rfl
  exact ⟨s₂, v', stp.trans (by subst hq hst'; exact S), r⟩
theorem same_of {Z : State} {a0 : Array Value} {Cs : String} {y y1 y2 : MethodName} (w3 : (Cond.instanceMethod y).before a0 Z = true) (wsel : (Cond.selects Cs y1 y2).before a0 Z = true) (hc : y2.cls = y.cls) (hy : y.cls ≠ "java/lang/invoke/MethodHandle" ∧ y.cls ≠ "java/lang/invoke/VarHandle") : (Cond.sameMethod y.cls y.cls y.name y.desc).before a0 Z = true := by
  obtain ⟨mk, methM, hnamed, hmethM, -, -⟩ := Cond.instanceMethod_spec w3
  obtain ⟨c2, r2, m2, -, -, q3, -, kP, hkP, hkPi⟩ := Cond.selects_spec wsel
  have hf := State.methodFound?_of_named hnamed hy
  have h1 := findClass_of_methodNamed hnamed
  have h2 := findClass_of_methodNamed q3
  rw [hc, h1] at h2
  have e := Option.some.inj h2
  rw [← e] at hkP
  have hn' : Z.methodNamed? ⟨y.cls, y.name, y.desc⟩ = some mk := hnamed
  simp [Cond.before, Cond.holds, Cond.value, h1, hf, hn', hkP, hkPi]
theorem g_callU (C : Cx p s m meth c Z own nm code ml ret) {y : MethodName} {bytes : ByteArray} {maxL ck sk : Nat} {rt : Option FieldType} {Q : Option Value → Heap → Prop} {index W : Nat} {argsL : List Value} {Cl Cs : String} {y1 y2 : MethodName} {a : Addr} (d : decode code pc = .ok (.invokespecial index, 3)) (w1 : (Cond.methodLink own index y).before a0 Z = true) (w3 : (Cond.instanceMethod y).before a0 Z = true) (w4 : (Cond.superclass own y.cls).before a0 Z = true) (wsel : (Cond.selects Cs y1 y2).before a0 Z = true) (hcl : y2.cls = y.cls) (hni : y.name ≠ "<init>") (wc : (Cond.code y bytes maxL rt).before a0 Z = true) (hy : y.cls ≠ "java/lang/invoke/MethodHandle" ∧ y.cls ≠ "java/lang/invoke/VarHandle")
    (E : Exa Z h a Cl) (M : BK l R p e below s args y 3 W (.ref a :: argsL).toArray h ck sk n0 Q) (hc : k + ck ≤ R.cells) (hs : n + sk ≤ R.slots) (hsz : Ls.size = ml) (hlen : ∀ sig, parseMethodDescriptor y.desc = some sig → argsL.length = sig.parameters.length) (hst : st = argsL.reverse ++ .ref a :: rest) (hW : (rest.map fun v => v.category).sum = W) (hq : pc + 3 = q)
    (K : ∀ v h', Q v h' → ∃ st', st' = v.toList ++ rest ∧ Go p l e R s m args below meth c Ph n0 h' (k + ck) (n + sk) q Ls st') : Go p l e R s m args below meth c Ph n0 h k n pc Ls st := fun T locs X N eT => by
  have hZ := C.2.2.2.2.1
  obtain ⟨v, vm1, ⟨T', L', k', n'⟩, -, X', ⟨L, ⟨hQ, NL⟩, l1, l2, l3⟩, stp⟩ := superBack X C.1 hZ C.2.2.2.1 w1 (same_of w3 wsel hcl hy) w3 w4 hni M eT (Ins.self E) (g := mkF m pc Ls st) rfl (hsz.trans C.2.2.1.symm) wc (argsL := argsL) (rest := rest) hlen hst (by show 2 * 0 + _ ≤ _; rw [hW]; omega) (hb C.2.1 d) (fun _ _ => ⟨rfl, eT, hc, hs⟩)
  dsimp only [Pt.U, Pt.locs, Pt.cells, Pt.slots] at X' l1 l2 l3 stp
  subst l1 l2 l3
  obtain ⟨st', hst', K'⟩ := K v _ hQ
  obtain ⟨s₂, v', S, r⟩ := K' _ _ X' (N.app NL) rfl
  exact ⟨s₂, v', stp.trans (by subst hq hst'; exact S), r⟩
theorem g_callF (C : Cx p s m meth c Z own nm code ml ret) {y : MethodName} {ck sk : Nat} {Q : Option Value → Heap → Prop} {index W : Nat} {argsL : List Value} {xi : MethodName} {Cl : String} {a : Addr} {count : Nat} (d : decode code pc = .ok (.invokeinterface index count, 5)) (w1 : (Cond.methodLink own index xi).before a0 Z = true) (w2 : (Cond.declares xi).before a0 Z = true) (w3 : (Cond.interfaceMethod xi.cls xi.cls xi.name xi.desc).before a0 Z = true) (w5 : (Cond.selects Cl xi y).before a0 Z = true) (w6 : (Cond.instanceMethod y).before a0 Z = true) (w7 : (Cond.publicMethod y).before a0 Z = true) (w8 : (Cond.unhidden Cl xi.name xi.desc).before a0 Z = true) (w9 : (Cond.castable Cl xi.cls).before a0 Z = true) (hfa : ((Cond.interfaceMethod xi.cls xi.cls xi.name xi.desc).onTables && (Cond.interfaceMethod xi.cls xi.cls xi.name xi.desc).keepsFace) = true) (hy : xi.cls ≠ "java/lang/invoke/MethodHandle" ∧ xi.cls ≠ "java/lang/invoke/VarHandle")
    (E : Exa Z h a Cl) (M : BK l R p e below s args y 5 W (.ref a :: argsL).toArray h ck sk n0 Q) (hc : k + ck ≤ R.cells) (hs : n + sk ≤ R.slots) (hsz : Ls.size = ml) (hlen : ∀ sig, parseMethodDescriptor xi.desc = some sig → argsL.length = sig.parameters.length) (hst : st = argsL.reverse ++ .ref a :: rest) (hW : (rest.map fun v => v.category).sum = W) (hq : pc + 5 = q)
    (K : ∀ v h', Q v h' → ∃ st', st' = v.toList ++ rest ∧ Go p l e R s m args below meth c Ph n0 h' (k + ck) (n + sk) q Ls st') : Go p l e R s m args below meth c Ph n0 h k n pc Ls st := fun T locs X N eT => by
  have hZ := C.2.2.2.2.1
  obtain ⟨cq, kq, qa, qb, qc⟩ := isOf hZ eT E
  obtain ⟨v, vm1, ⟨T', L', k', n'⟩, -, X', ⟨L, ⟨hQ, NL⟩, l1, l2, l3⟩, stp⟩ := X.interfaceBack C.1 (xi := xi) (y := y) C.2.2.2.1 (mvT hZ w1) (mvT hZ w2) (mvT hZ w3 hfa) (mvT hZ w5) (mvT hZ w6) (mvT hZ w7) (mvT hZ w8) (mvT hZ w9) hy M qa qb qc (g := mkF m pc Ls st) rfl (hsz.trans C.2.2.1.symm) (Steps.refl _) (argsL := argsL) (rest := rest) hlen hst (by show 2 * 0 + _ ≤ _; rw [hW]; omega) (hb C.2.1 d) (fun _ _ => ⟨rfl, eT, hc, hs⟩)
  dsimp only [Pt.U, Pt.locs, Pt.cells, Pt.slots] at X' l1 l2 l3 stp
  subst l1 l2 l3
  obtain ⟨st', hst', K'⟩ := K v _ hQ
  obtain ⟨s₂, v', S, r⟩ := K' _ _ X' (N.app NL) rfl
  exact ⟨s₂, v', stp.trans (by subst hq hst'; exact S), r⟩
theorem nf_of {y : MethodName} {Cl : String} (C : Cx p s m meth c Z own nm code ml ret) (w : (Cond.selects Cl y y).before a0 Z = true) : NotFace s y := notFace_of_selects (args := #[]) (mvT C.2.2.2.2.1 w)
theorem nf_of2 {y y1 y2 : MethodName} {Cl : String} (C : Cx p s m meth c Z own nm code ml ret) (w : (Cond.selects Cl y1 y2).before a0 Z = true) (hc : y2.cls = y.cls) : NotFace s y := fun r0 hr => by
  obtain ⟨c2, r2, m2, -, -, q3, -, kP, hkP, hkPi⟩ := Cond.selects_spec (mvT (args := #[]) C.2.2.2.2.1 w)
  have h1 := findClass_of_methodNamed hr
  have h2 := findClass_of_methodNamed q3
  rw [hc, h1] at h2
  have e := Option.some.inj h2
  rw [← e] at hkP
  exact ⟨kP, hkP, hkPi⟩
theorem priv_of {y : MethodName} (C : Cx p s m meth c Z own nm code ml ret) (w : (Cond.privateMethod y).before a0 Z = true) : s.PrivateAt y := Cond.privateMethod_at (args := #[]) (mvP C.2.2.2.2.1 w)
theorem Av.arv {a : Addr} {ty : FieldType} {N : Nat} {f : Nat → Value} {vs : List Value} {dv : Value} (A : Av Z h a ty N f) (hf : ∀ j, j < N → f j = vs.getD j dv) (hfit : ∀ j, j < N → fits ty (vs.getD j dv) = true) : ∃ kA, Arv Z h a kA ty (Int32.ofNat N) vs dv := by
  obtain ⟨c', A, r1, r2, r3⟩ := A
  have e : (Int32.ofNat N).toNatClampNeg = N := Int32.toNatClampNeg_ofNat_of_lt r2
  refine ⟨c'.cls, c', A, rfl, by rw [e]; exact r1, ?_, fun j hj => by rw [r3 j (r1 ▸ hj), hf j (r1 ▸ hj)], fun j hj => hfit j (r1 ▸ hj)⟩
  intro q
  have := Int32.lt_iff_toInt_lt.mp q
  rw [Int32.toInt_ofNat_of_lt r2] at this
  simp at this
  omega
theorem app_less {ws : List Cond} {c0 : Cond} {rm : Room} {y : MethodName} {pl : Platform} {sa : State} {ma : MethodId} {aa : Array Value} {ba : List Frame} (hf : sa.frames = .invoking ma aa :: ba) (hh : (head1 (c0 :: ws) rm).appliesLoose y pl sa = true) : (head1 [c0] rm).appliesLoose y pl sa = true := by
  obtain ⟨h1, h2, h3, h4, h5, h6, h7, h8⟩ := (Spec.appliesLoose_iff hf).mp hh
  refine (Spec.appliesLoose_iff hf).mpr ⟨h1, h2, h3, h4, h5, h6, h7, ?_⟩
  show (Cond.and c0 .tt).before aa sa = true
  rw [Cond.before_and, atoms_spec (ws := c0 :: ws) h8 c0 (List.mem_cons_self ..)]; rfl
theorem own_cat {v : Value} (hr : v.isRef = true) : v.category = 1 := by rcases ref_cases hr with rfl | ⟨a, rfl⟩ <;> rfl
theorem own_nar {v : Value} {cn : String} (hr : v.isRef = true) : narrow (.object cn) v = v := by rcases ref_cases hr with rfl | ⟨a, rfl⟩ <;> rfl
theorem own_fit {v : Value} {cn : String} (hr : v.isRef = true) : fits (.object cn) v = true := by rcases ref_cases hr with rfl | ⟨a, rfl⟩ <;> rfl
theorem Ext.keep {h0 h h' : Heap} {ws : List Addr} (E : Ext h0 h) (K : Keep h h' ws) (q : ∀ x ∈ ws, h0.size ≤ x) : Ext h0 h' := ⟨Nat.le_trans E.1 K.1, fun a c hc => K.2.1 a c (E.2 a c hc) fun hm => Nat.not_lt.mpr (q a hm) (Array.getElem?_eq_some_iff.mp hc).1⟩
theorem Ext.wr {h0 h h' : Heap} {a : Addr} {sl : Nat} {v : Value} (E : Ext h0 h) (W : Wr h h' a sl v) (q : h0.size ≤ a) : Ext h0 h' := Ext.keep E (Keep.of_wr W) fun x hx => by cases List.mem_singleton.mp hx; exact q
theorem Ext.tr {h0 h h' : Heap} (E : Ext h0 h) (E' : Ext h h') : Ext h0 h' := ⟨Nat.le_trans E.1 E'.1, fun a c hc => E'.2 a c (E.2 a c hc)⟩
theorem Ext.rfl' (h : Heap) : Ext h h := ⟨Nat.le_refl _, fun _ _ q => q⟩
theorem Ext.kp {h h' : Heap} (E : Ext h h') (ws : List Addr) : Keep h h' ws := (Keep.refl h ws).ext E
/-- an array of references of a class, which takes its objects -/
def Ao (Z : State) (h : Heap) (a : Addr) (Cl : String) (N : Nat) (f : Nat → Value) : Prop := ∃ c : Cell, Arr Z h a c (.object Cl) ∧ Ovr Z c.cls Cl ∧ c.slots.size = N ∧ N < 2 ^ 31 ∧ ∀ j, j < N → c.slots[j]? = some (f j)
theorem Ao.av {a : Addr} {Cl : String} {N : Nat} {f : Nat → Value} (A : Ao Z h a Cl N f) : Av Z h a (.object Cl) N f := by obtain ⟨c, A, -, r⟩ := A; exact ⟨c, A, r⟩
theorem Ao.lt {a : Addr} {Cl : String} {N : Nat} {f : Nat → Value} (A : Ao Z h a Cl N f) : a < h.size := A.av.lt
theorem Ao.ext {h' : Heap} {a : Addr} {Cl : String} {N : Nat} {f : Nat → Value} (A : Ao Z h a Cl N f) (E : Ext h h') : Ao Z h' a Cl N f := by obtain ⟨c, A, r⟩ := A; exact ⟨c, A.ext E, r⟩
theorem Ao.other {h' : Heap} {a b : Addr} {Cl : String} {N sl : Nat} {v : Value} {f : Nat → Value} (A : Ao Z h b Cl N f) (W : Wr h h' a sl v) (ne : b ≠ a) : Ao Z h' b Cl N f := by obtain ⟨c, A, r⟩ := A; exact ⟨c, A.other W ne, r⟩
theorem Ao.keep {h' : Heap} {a : Addr} {Cl : String} {N : Nat} {f : Nat → Value} {ws : List Addr} (A : Ao Z h a Cl N f) (K : Keep h h' ws) (ne : a ∉ ws) : Ao Z h' a Cl N f := by obtain ⟨c, A, r⟩ := A; exact ⟨c, ⟨K.2.1 a c A.1 ne, A.2⟩, r⟩
theorem Ao.set {h' : Heap} {a : Addr} {Cl : String} {N i : Nat} {v : Value} {f : Nat → Value} (A : Ao Z h a Cl N f) (W : Wr h h' a i v) (hi : i < N) : Ao Z h' a Cl N (fun j => if j = i then v else f j) := by
  obtain ⟨c, A, O, r1, r2, r3⟩ := A
  refine ⟨c.setSlot i v, A.same W, O, by rw [sz_set]; exact r1, r2, fun j hj => ?_⟩
  by_cases e : j = i
  · subst e; simp [Cell.setSlot, r1, hi]
  · show (c.setSlot i v).slots[j]? = some (if j = i then v else f j)
    rw [if_neg e, ← r3 j hj]; simp [Cell.setSlot, Array.getElem?_setIfInBounds_ne (Ne.symm e)]
theorem Ao.sto {a y : Addr} {Cl : String} {N : Nat} {f : Nat → Value} (A : Ao Z h a Cl N f) (I : Ins Z h y Cl true) : Sto Z h a (.ref y) := by obtain ⟨c, A, O, -⟩ := A; exact Sto.of A O I
theorem Ao.new {a : Addr} {Cl : String} {cA : ClassId} {N' : Int32} (A : Arr Z h a (newA cA (.object Cl) N') (.object Cl)) (O : Ovr Z cA Cl) (hn : ¬ N' < 0) : Ao Z h a Cl N'.toNatClampNeg (fun _ => .null) :=
  ⟨_, A, O, sz_new _ _ _, (back32 hn).2, fun j hj => by simp [newA, hj, defaultValue]⟩
theorem Av.fitc {a : Addr} {ty : FieldType} {N : Nat} {f : Nat → Value} (A : Av Z h a ty N f) (hf : ∀ j, j < N → fits ty (f j) = true) : ∃ cl, Arr Z h a cl ty ∧ cl.slots.size = N ∧ N < 2 ^ 31 ∧ (∀ j, j < N → cl.slots[j]? = some (f j)) ∧ FitC Z cl := by
  obtain ⟨cl, A, r1, r2, r3⟩ := A
  refine ⟨cl, A, r1, r2, r3, fun i v hv => ?_⟩
  obtain ⟨hi, -⟩ := Array.getElem?_eq_some_iff.mp hv
  obtain ⟨hs, kk, hk, comp, hkind⟩ := A.2.1
  have e1 := r3 i (r1 ▸ hi)
  rw [hv] at e1
  cases e1
  simp [State.fitsSlot, State.slotType?, hk, hkind, hf i (r1 ▸ hi)]
theorem g_newarrayE (C : Cx p s m meth c Z own nm code ml ret) {aty : ArrayType} {N' : Int32} {cap : Nat} {ad : String} (d : decode code pc = .ok (.newarray aty, 2)) (w : (Cond.arrayClass (newarray.typeOf aty)).before a0 Z = true) (hn : ¬ N' < 0) (hcap : N'.toNatClampNeg ≤ cap) (hbg : cap * 8 ≤ 536870912) (hc : k + 1 ≤ R.cells) (hl : n + cap ≤ R.slots) (had : "[" ++ (newarray.typeOf aty).toString = ad) (hq : pc + 2 = q)
    (K : ∀ (a : Addr) (h' : Heap) (cA : ClassId), a = h.size → Ext h h' → Arr Z h' a (newA cA (newarray.typeOf aty) N') (newarray.typeOf aty) → Exa Z h' a ad → Go p l e R s m args below meth c Ph n0 h' (k + 1) (n + cap) q Ls (.ref a :: st)) : Go p l e R s m args below meth c Ph n0 h k n pc Ls (.int N' :: st) := fun T locs X N eT => by
  obtain ⟨T', h', cA, X', e', E, A, EA, stp⟩ := newPE X C.1 C.2.2.2.2.1 w eT (g := mkF m pc Ls (.int N' :: st)) rfl (hb C.2.1 d) rfl hn hcap hbg hc hl had
  obtain ⟨s₂, v, S, r⟩ := K _ h' cA rfl E A EA T' locs X' N e'
  exact ⟨s₂, v, stp _ (by subst hq; exact S), r⟩
theorem g_clone (C : Cx p s m meth c Z own nm code ml ret) {ad : String} {index W cap N : Nat} {a : Addr} {ty : FieldType} {f : Nat → Value} (d : decode code pc = .ok (.invokevirtual index, 3)) (w1 : (Cond.methodLink own index ⟨ad, "clone", "()Ljava/lang/Object;"⟩).before a0 Z = true) (w2 : (Cond.sameMethod ad "java/lang/Object" "clone" "()Ljava/lang/Object;").before a0 Z = true) (w3 : (Cond.native ⟨"java/lang/Object", "clone", "()Ljava/lang/Object;"⟩).before a0 Z = true)
    (w4 : (Cond.instanceMethod ⟨"java/lang/Object", "clone", "()Ljava/lang/Object;"⟩).before a0 Z = true) (w5 : (Cond.selects ad ⟨ad, "clone", "()Ljava/lang/Object;"⟩ ⟨"java/lang/Object", "clone", "()Ljava/lang/Object;"⟩).before a0 Z = true) (w6 : (Cond.castable ad "java/lang/Cloneable").before a0 Z = true)
    (A : Av Z h a ty N f) (hfit : ∀ j, j < N → fits ty (f j) = true) (E : Exa Z h a ad) (hsz : Ls.size = ml) (hf : 1 ≤ R.frames) (hW : (st.map fun v => v.category).sum = W) (hl : W + 14 ≤ R.locals) (hcap : N ≤ cap) (hc : k + 1 ≤ R.cells) (hsl : n + cap ≤ R.slots) (hq : pc + 3 = q)
    (K : ∀ (b : Addr) (h' : Heap), b = h.size → Ext h h' → Av Z h' b ty N f → Exa Z h' b ad → Go p l e R s m args below meth c Ph n0 h' (k + 1) (n + cap) q Ls (.ref b :: st)) : Go p l e R s m args below meth c Ph n0 h k n pc Ls (.ref a :: st) := fun T locs X N' eT => by
  obtain ⟨cl, A, r1, r2, r3, FC⟩ := A.fitc hfit
  obtain ⟨T', h', X', e', E', A', EA, stp⟩ := cloneA X C.1 C.2.2.2.2.1 C.2.2.2.1 w1 w2 w3 w4 w5 w6 eT A E FC (g := mkF m pc Ls (.ref a :: st)) rfl (hsz.trans C.2.2.1.symm) rfl (hb C.2.1 d) hf (W := W) (cap := cap) (by show 2 * 0 + _ ≤ _; rw [hW]; omega) hl (by rw [r1]; exact hcap) hc hsl
  obtain ⟨s₂, v, S, r⟩ := K _ h' rfl E' ⟨_, A', r1, r2, r3⟩ EA T' locs X' N' e'
  exact ⟨s₂, v, stp _ (by subst hq; exact S), r⟩
theorem Av.rng {a : Addr} {ty : FieldType} {N : Nat} {f : Nat → Value} (A : Av Z h a ty N f) (hf : ∀ j, j < N → fits ty (f j) = true) (dv : Value) : ∃ kA, Arv Z h a kA ty (Int32.ofNat N) ((List.range N).map f) dv :=
  A.arv (fun j hj => by simp [List.getD, hj]) (fun j hj => by simpa [List.getD, hj] using hf j hj)
theorem Av.of_arv {a : Addr} {ty : FieldType} {N : Nat} {kA : ClassId} {z : Int32} {vs : List Value} {dv : Value} (A : Arv Z h a kA ty z vs dv) (hz : z.toNatClampNeg = N) : Av Z h a ty N (fun j => vs.getD j dv) := by
  obtain ⟨c', A, -, r1, r2, H, -⟩ := A
  rw [hz] at r1
  exact ⟨c', A, r1, by rw [← hz]; exact (back32 r2).2, fun j hj => H j (by rw [r1]; exact hj)⟩
theorem nn32 {i : Nat} (hi : i < 2 ^ 31) : ¬ Int32.ofNat i < 0 := by
  rw [Int32.lt_iff_toInt_lt, Int32.toInt_ofNat_of_lt hi]; have e0 : (0 : Int32).toInt = 0 := rfl; omega
theorem g_acopy (C : Cx p s m meth c Z own nm code ml ret) {index W N M sp dp nn : Nat} {a b : Addr} {ty : FieldType} {f f' : Nat → Value} {i1 i2 i3 : Int32} (d : decode code pc = .ok (.invokestatic index, 3)) (w1 : (Cond.methodLink own index Jvm.Stand.acN).before a0 Z = true) (w2 : (Cond.native Jvm.Stand.acN).before a0 Z = true) (w3 : (Cond.static Jvm.Stand.acN).before a0 Z = true) (w4 : (Cond.initialized "java/lang/System").before a0 Z = true)
    (A : Av Z h a ty N f) (B : Av Z h b ty M f') (hrk : refKind ty = false) (hfa : ∀ j, j < N → fits ty (f j) = true) (hfb : ∀ j, j < M → fits ty (f' j) = true) (e1 : i1 = Int32.ofNat sp) (e2 : i2 = Int32.ofNat dp) (e3 : i3 = Int32.ofNat nn) (h1 : sp + nn ≤ N) (h2 : dp + nn ≤ M) (ge : n0 ≤ b) (hsz : Ls.size = ml) (hf : 1 ≤ R.frames) (hW : (st.map fun v => v.category).sum = W) (hl : W + (nativeFrameWords "java/lang/System" "arraycopy" 5 + 11) ≤ R.locals) (hq : pc + 3 = q)
    (K : ∀ (h' : Heap), Keep h h' [b] → Av Z h' b ty M (fun j => if dp ≤ j ∧ j < dp + nn then f (sp + (j - dp)) else f' j) → Go p l e R s m args below meth c Ph n0 h' k n q Ls st) : Go p l e R s m args below meth c Ph n0 h k n pc Ls (.int i3 :: .int i2 :: .ref b :: .int i1 :: .ref a :: st) := fun T locs X N' eT => by
  have hN : N < 2 ^ 31 := by obtain ⟨_, _, _, r, _⟩ := A; exact r
  have hM : M < 2 ^ 31 := by obtain ⟨_, _, _, r, _⟩ := B; exact r
  obtain ⟨kA, A1⟩ := A.rng hfa .null
  obtain ⟨kB, B1⟩ := B.rng hfb .null
  have t1 : (Int32.ofNat sp).toNatClampNeg = sp := Int32.toNatClampNeg_ofNat_of_lt (by omega)
  have t2 : (Int32.ofNat dp).toNatClampNeg = dp := Int32.toNatClampNeg_ofNat_of_lt (by omega)
  have t3 : (Int32.ofNat nn).toNatClampNeg = nn := Int32.toNatClampNeg_ofNat_of_lt (by omega)
  have t4 : (Int32.ofNat N).toNatClampNeg = N := Int32.toNatClampNeg_ofNat_of_lt hN
  have t5 : (Int32.ofNat M).toNatClampNeg = M := Int32.toNatClampNeg_ofNat_of_lt hM
  subst e1 e2 e3
  obtain ⟨T', h', L, X', e', N2, Kp, Bv, stp⟩ := cpA X C.1 C.2.2.2.2.1 C.2.2.2.1 w1 w2 w3 w4 eT A1 B1 (Or.inl ⟨rfl, hrk⟩) (nn32 (by omega)) (nn32 (by omega)) (nn32 (by omega)) (by rw [t1, t3, t4]; exact h1) (by rw [t2, t3, t5]; exact h2) rfl (by rw [t2, t3]; simpa using h2) N' ge (g := mkF m pc Ls (.int (Int32.ofNat nn) :: .int (Int32.ofNat dp) :: .ref b :: .int (Int32.ofNat sp) :: .ref a :: st)) rfl (hsz.trans C.2.2.1.symm) rfl (hb C.2.1 d) hf (W := W) (by show 2 * 0 + _ ≤ _; rw [hW]; omega) hl
  have B2 := (Av.of_arv Bv t5).congr (g := fun j => if dp ≤ j ∧ j < dp + nn then f (sp + (j - dp)) else f' j) (fun j hj => by
    rw [t1, t2, t3]
    simp only [List.getD_eq_getElem?_getD]
    by_cases c1 : j < dp
    · rw [if_neg (by omega), List.append_assoc, List.getElem?_append_left (by simp; omega), List.getElem?_take_of_lt c1]
      simp [hj]
    · by_cases c2 : j < dp + nn
      · rw [if_pos ⟨by omega, c2⟩, List.getElem?_append_left (by simp; omega), List.getElem?_append_right (by simp; omega)]
        simp [show min dp M = dp by omega, show j - dp < nn by omega, show sp + (j - dp) < N by omega]
      · rw [if_neg (by omega), List.getElem?_append_right (by simp; omega)]
        simp [show min dp M = dp by omega, show dp + nn + (j - (dp + nn)) = j by omega, hj])
  obtain ⟨s₂, v, S, r⟩ := K h' Kp B2 T' L X' N2 e'
  exact ⟨s₂, v, stp _ (by subst hq; exact S), r⟩
end GoRules
/-! ## The wide walk: literals may be loaded (the tables' interned strings grow); the Stand is over s0 with the tables of the moment -/
section GoWide
variable {p : Program} {l : Launch} {e : Env} {R : Room} {s0 : State} {vm0 : Vm} {m : MethodId} {args : Array Value} {below : List Frame} {meth : Method} {c : Code} {Ph : State → Option Value → Prop} {n0 : Nat} {h : Heap} {k n : Nat} {pc q : Nat} {Ls : Array Slot} {st rest : List Value} {Z : State} {a0 : Array Value} {own nm : String} {code : ByteArray} {ml : Nat} {ret : Option FieldType}
def Sn (s0 : State) (vm0 : Vm) (h : Heap) : Prop := ∃ k0, s0.Since vm0 k0 ∧ k0 ≤ h.size
theorem Sn.mono {h' : Heap} (S : Sn s0 vm0 h) (q : h.size ≤ h'.size) : Sn s0 vm0 h' := by obtain ⟨k0, h1, h2⟩ := S; exact ⟨k0, h1, Nat.le_trans h2 q⟩
theorem IB.warm {vm1 : Vm} {Ts : List String} (I : IB Z vm0 Ts) (hW : (s0.setVm vm0).WarmedH vm1) : IB Z vm1 Ts := by
  obtain ⟨more, e, hm⟩ := I
  exact ⟨more, (hW.interned_eq).trans e, hm⟩
def CtrW (l : Launch) (Z : State) (y : MethodName) (bytes : ByteArray) (maxL : Nat) (rt : Option FieldType) (rm : Room) (as' : Array Value) (hs : Heap) (nf : Nat) (P : Vm → Prop) (Q : Option Value → Vm → Heap → Prop) : Prop :=
  MetFree l y (head1 [Cond.code y bytes maxL rt] rm) (fun a U => a = as' ∧ Z.Warmed39 U.vm ∧ U.heap = hs ∧ P U.vm) (fun _ _ _ _ _ => True) (fun _ U o U' => ∃ v L, o = .returned v ∧ (Q v U'.vm U'.heap ∧ Fr nf L) ∧ ReturnedEndW U o U' L rm.cells rm.slots)
def FinW (s0 : State) (below : List Frame) (rm : Room) (nf : Nat) (Q : Option Value → Vm → Heap → Prop) : State → Option Value → Prop :=
  fun s₂ v => s₂.status = .running ∧ Ended s₂ below (.returned v) ∧ ∃ L, (Q v s₂.vm s₂.heap ∧ Fr nf L) ∧ ReturnedEndW s0 (.returned v) s₂ L rm.cells rm.slots
theorem CtrW.of {l : Launch} {Z : State} {y : MethodName} {bytes : ByteArray} {maxL : Nat} {rt : Option FieldType} {rm : Room} {as' : Array Value} {hs : Heap} {nf : Nat} {P : Vm → Prop} {Q : Option Value → Vm → Heap → Prop} {n1 : Nat} (Ls : Array Slot) (hp : plainFor y = true) (hE : ∀ m, entryFrame m as' maxL = mkF m 0 Ls [])
    (B : ∀ (p : Program) (e : Env) (s0 : State) (vm0 : Vm) (m : MethodId) (below : List Frame) (meth : Method) (c : Code), Cx p (s0.setVm vm0) m meth c Z y.cls y.name bytes maxL rt → s0.heap = hs → P vm0 → Sn s0 vm0 hs → Go p l e rm (s0.setVm vm0) m as' below meth c (FinW s0 below rm nf Q) n1 hs 0 0 0 Ls []) : CtrW l Z y bytes maxL rt rm as' hs nf P Q := by
  refine MetFree.of_bodySF hp hisR ?_
  intro p e s m args below meth c s₁ Bd hml0 hP hK
  obtain ⟨rfl, hZ, hh, hPv⟩ := hP
  have X0 : Stand p l e rm s m _ below meth c s₁ [] 0 0 := Stand.of_body Bd
  have e0 : s₁.heap = hs := by rw [← hh, Bd.state]; rfl
  have S0 : Sn s s.vm hs := ⟨s.heap.size, (State.WarmedH.refl s).since _, by rw [hh]; exact Nat.le_refl _⟩
  obtain ⟨s₂, v, S, r1, r2, L, r3, r4⟩ := B p e s s.vm m below meth c ⟨Bd.exec, Bd.bytes, hml0, findClass_of_methodNamed Bd.named, hZ, (name_of_methodNamed Bd.named Bd.method).1, Bd.returns, Bd.notSynchronized⟩ hh hPv S0 s₁ [] X0 (Fr.nil _) e0
  exact ⟨s₂, _, castTop (hE m) S, r1, r2, v, L, rfl, r3, r4⟩
theorem finW_of {T : State} {locs : List Loc} {rm : Room} {nf : Nat} {Q : Option Value → Vm → Heap → Prop} {v : Option Value} {st' : List Value} (C : Cx p (s0.setVm vm0) m meth c Z own nm code ml ret) (Sw : Sn s0 vm0 h) (X : Stand p l e R (s0.setVm vm0) m args below meth c T locs k n) (N : Fr n0 locs) (eT : T.heap = h) (hv : ret = none → v = none) (hn : nf ≤ n0) (hk : k ≤ rm.cells) (hl : n ≤ rm.slots) (hQ : ∀ vm1, (s0.setVm vm0).WarmedH vm1 → Q v vm1 h)
    (H : ∀ fs, (∀ (f : JFrame) (acts : List Action), f.method = m → f.locked = none → f.entered = [] → (doReturn e (T.setTop f) acts v).1 = T.setFrames fs) → Steps p.tables e below (T.setTop (mkF m pc Ls st')) (T.setFrames fs)) :
    ∃ s₂ v, Steps p.tables e below (T.setTop (mkF m pc Ls st')) s₂ ∧ FinW s0 below rm nf Q s₂ v := by
  obtain ⟨k0, hS, hk0⟩ := Sw
  obtain ⟨fs, hr, hrun, hended, h1, h2, h3, hsame⟩ := X.leaveW (v := v) hS (by rw [eT]; exact hk0) (fun hh => hv (C.2.2.2.2.2.2.1.symm.trans hh)) C.2.2.2.2.2.2.2
  exact ⟨_, v, H fs hr, hrun, hended, locs, ⟨by rw [show (T.setFrames fs).heap = h from eT]; exact hQ _ X.warmed, fun y hy => Nat.le_trans hn (N y hy)⟩, h1, h2, h3, hsame.mono hk hl⟩
theorem g_returnW {rm : Room} {nf : Nat} {Q : Option Value → Vm → Heap → Prop} (C : Cx p (s0.setVm vm0) m meth c Z own nm code ml none) (Sw : Sn s0 vm0 h) (d : decode code pc = .ok (.return_, 1)) (hn : nf ≤ n0) (hk : k ≤ rm.cells) (hl : n ≤ rm.slots) (hQ : ∀ vm1, (s0.setVm vm0).WarmedH vm1 → Q none vm1 h) : Go p l e R (s0.setVm vm0) m args below meth c (FinW s0 below rm nf Q) n0 h k n pc Ls [] :=
  fun T locs X N eT => finW_of C Sw X N eT (fun _ => rfl) hn hk hl hQ fun fs hr => X.returnOut C.1 C.2.2.2.2.2.2.1 (hb C.2.1 d) hr
theorem g_ireturnW {rm : Room} {nf : Nat} {Q : Option Value → Vm → Heap → Prop} {x : Int32} (C : Cx p (s0.setVm vm0) m meth c Z own nm code ml (some .int)) (Sw : Sn s0 vm0 h) (d : decode code pc = .ok (.ireturn, 1)) (hn : nf ≤ n0) (hk : k ≤ rm.cells) (hl : n ≤ rm.slots) (hQ : ∀ vm1, (s0.setVm vm0).WarmedH vm1 → Q (some (.int x)) vm1 h) : Go p l e R (s0.setVm vm0) m args below meth c (FinW s0 below rm nf Q) n0 h k n pc Ls (.int x :: st) :=
  fun T locs X N eT => finW_of C Sw X N eT (fun hh => nomatch hh) hn hk hl hQ fun fs hr => retI X C.1 C.2.2.2.2.2.2.1 (hb C.2.1 d) hr
theorem g_nreturnW {rm : Room} {nf : Nat} {Q : Option Value → Vm → Heap → Prop} {x z : Int32} {t : FieldType} (C : Cx p (s0.setVm vm0) m meth c Z own nm code ml (some t)) (Sw : Sn s0 vm0 h) (d : decode code pc = .ok (.ireturn, 1)) (ht : t = .boolean ∨ t = .byte ∨ t = .char ∨ t = .short) (hz : nar t x = z) (hn : nf ≤ n0) (hk : k ≤ rm.cells) (hl : n ≤ rm.slots) (hQ : ∀ vm1, (s0.setVm vm0).WarmedH vm1 → Q (some (.int z)) vm1 h) : Go p l e R (s0.setVm vm0) m args below meth c (FinW s0 below rm nf Q) n0 h k n pc Ls (.int x :: st) :=
  fun T locs X N eT => finW_of (v := some (.int z)) C Sw X N eT (fun hh => nomatch hh) hn hk hl hQ fun fs hr => retN X C.1 C.2.2.2.2.2.2.1 ht (hb C.2.1 d) (by rw [hz]; exact hr)
theorem g_areturnW {rm : Room} {nf : Nat} {Q : Option Value → Vm → Heap → Prop} {x : Value} {t : FieldType} (C : Cx p (s0.setVm vm0) m meth c Z own nm code ml (some t)) (Sw : Sn s0 vm0 h) (d : decode code pc = .ok (.areturn, 1)) (ht : t.isReference = true) (hx : x.isRef = true) (hn : nf ≤ n0) (hk : k ≤ rm.cells) (hl : n ≤ rm.slots) (hQ : ∀ vm1, (s0.setVm vm0).WarmedH vm1 → Q (some x) vm1 h) : Go p l e R (s0.setVm vm0) m args below meth c (FinW s0 below rm nf Q) n0 h k n pc Ls (x :: st) :=
  fun T locs X N eT => finW_of C Sw X N eT (fun hh => nomatch hh) hn hk hl hQ fun fs hr => retOut X C.1 C.2.2.2.2.2.2.1 (by rcases ref_cases hx with rfl | ⟨a, rfl⟩ <;> cases t <;> first | rfl | cases ht) (Or.inr (Or.inr (Or.inr (Or.inr ⟨rfl, ht, hx⟩)))) (hb C.2.1 d) hr
theorem g_ldcS (C : Cx p (s0.setVm vm0) m meth c Z own nm code ml ret) {index : Nat} {text : String} {Ts : List String} {vs : List Value} {z : Int32} {nn : Nat} (Sw : Sn s0 vm0 h) (d : decode code pc = .ok (.ldc index, 2)) (w : (Cond.stringLink own index text).before a0 Z = true) (wS : ∀ a ∈ Bundle.stringAtoms, a.before a0 Z = true) (hkeep : ∀ (b : Addr) (cl : Cell), Z.heap[b]? = some cl → s0.heap[b]? = some cl) (hn0 : s0.heap.size ≤ n0) (I : IB Z vm0 Ts) (hnot : text ∉ Ts) (hh : Jvm.Lit.constHeld Z own index) (hcw : Jvm.Lit.compactW.before a0 Z = true)
    (ht : (∀ c ∈ text.toList, c.toNat < 256) ∧ text.toList.map (fun c => Value.int (Jvm.Lit.byteI c.toNat.toUInt16)) = vs) (hz : ¬ z < 0) (hzl : z.toNatClampNeg = vs.length) (hn : 4 * text.toList.length ≤ nn) (hbig : nn ≤ 536870912) (hc : k + 2 ≤ R.cells) (hl : n + (nn + 4) ≤ R.slots) (hq : pc + 2 = q)
    (K : ∀ (a : Addr) (vm1 : Vm) (h' : Heap) (b : Addr) (kb : ClassId), Ext h h' → Cx p (s0.setVm vm1) m meth c Z own nm code ml ret → Sn s0 vm1 h' → IB Z vm1 (text :: Ts) → Lit (s0.setVm vm1) own index a → Exa Z h' a "java/lang/String" → Fld Z h' a "java/lang/String" "coder" "B" (.int 0) → Fld Z h' a "java/lang/String" "value" "[B" (.ref b) → Arv Z h' b kb .byte z vs (.int 0) → Go p l e R (s0.setVm vm1) m args below meth c Ph n0 h' (k + 2) (n + (nn + 4)) q Ls (.ref a :: st)) : Go p l e R (s0.setVm vm0) m args below meth c Ph n0 h k n pc Ls st := fun T locs X N eT => by
  obtain ⟨k0, hS, hk0⟩ := Sw
  obtain ⟨a, T', h', k1, b, kb, X', e', E, hS', hk1, hZ', hown', E1, F1, F2, A1, -, -, I', L', stp⟩ := ldcSVL X C.1 C.2.2.2.2.1 C.2.2.2.1 w wS eT hS hk0 (fun y hy => Nat.le_trans hn0 (N y hy)) hkeep I hnot hh hcw ht hz hzl (g := mkF m pc Ls st) rfl (hb C.2.1 d) hn hbig hc hl
  obtain ⟨s₂, v, S, r⟩ := K a T'.vm h' b kb E ⟨C.1, C.2.1, C.2.2.1, hown', hZ', C.2.2.2.2.2⟩ ⟨k1, hS', hk1⟩ I' L' E1 F1 F2 A1 T' locs X' N e'
  exact ⟨s₂, v, stp _ (by subst hq; exact S), r⟩
theorem g_ldcA (C : Cx p (s0.setVm vm0) m meth c Z own nm code ml ret) {index : Nat} {text : String} {a : Addr} (d : decode code pc = .ok (.ldc index, 2)) (w : (Cond.stringLink own index text).before a0 Z = true) (Lt : Lit (s0.setVm vm0) own index a) (hq : pc + 2 = q) (K : Go p l e R (s0.setVm vm0) m args below meth c Ph n0 h k n q Ls (.ref a :: st)) : Go p l e R (s0.setVm vm0) m args below meth c Ph n0 h k n pc Ls st := fun T locs X N eT => by
  obtain ⟨s₂, v, S, r⟩ := K T locs X N eT
  exact ⟨s₂, v, ldcAgain X C.1 C.2.2.2.2.1 C.2.2.2.1 w Lt (g := mkF m pc Ls st) rfl (hb C.2.1 d) _ (by subst hq; exact S), r⟩
theorem g_ldcN (C : Cx p (s0.setVm vm0) m meth c Z own nm code ml ret) {index : Nat} {text : String} {nn : Nat} (Sw : Sn s0 vm0 h) (d : decode code pc = .ok (.ldc index, 2)) (w : (Cond.stringLink own index text).before a0 Z = true) (wS : ∀ a ∈ Bundle.stringAtoms, a.before a0 Z = true) (hn : 4 * text.toList.length ≤ nn) (hbig : nn ≤ 536870912) (hc : k + 2 ≤ R.cells) (hl : n + (nn + 4) ≤ R.slots) (hq : pc + 2 = q)
    (K : ∀ (a : Addr) (vm1 : Vm) (h' : Heap), Ext h h' → Cx p (s0.setVm vm1) m meth c Z own nm code ml ret → Sn s0 vm1 h' → Go p l e R (s0.setVm vm1) m args below meth c Ph n0 h' (k + 2) (n + (nn + 4)) q Ls (.ref a :: st)) : Go p l e R (s0.setVm vm0) m args below meth c Ph n0 h k n pc Ls st := fun T locs X N eT => by
  obtain ⟨k0, hS, hk0⟩ := Sw
  obtain ⟨a, T', h', k1, X', e', E, hS', hk1, hZ', hown', stp⟩ := ldcS X C.1 C.2.2.2.2.1 C.2.2.2.1 w wS eT hS hk0 (g := mkF m pc Ls st) rfl (hb C.2.1 d) hn hbig hc hl
  obtain ⟨s₂, v, S, r⟩ := K a T'.vm h' E ⟨C.1, C.2.1, C.2.2.1, hown', hZ', C.2.2.2.2.2⟩ ⟨k1, hS', hk1⟩ T' locs X' N e'
  exact ⟨s₂, v, stp _ (by subst hq; exact S), r⟩
theorem backOfW {s : State} {y : MethodName} {bytes : ByteArray} {maxL : Nat} {rt : Option FieldType} {rm : Room} {len W : Nat} {as' : Array Value} {P : Vm → Prop} {Q : Option Value → Vm → Heap → Prop} {nf : Nat}
    (hM : CtrW l Z y bytes maxL rt rm as' h nf P Q) (hZ : Z.Warmed39 s.vm) (wc : (Cond.code y bytes maxL rt).before a0 Z = true) (wz : (Cond.initialized y.cls).before a0 Z = true) (hf : rm.frames + 1 ≤ R.frames) (hl : W + (maxL + 11) + rm.locals ≤ R.locals) :
    BackS l R p e below s args y len W (fun A a => a = as' ∧ A.U.heap = h ∧ P A.U.vm ∧ A.cells + rm.cells ≤ R.cells ∧ A.slots + rm.slots ≤ R.slots)
      (fun A _ v B => ∃ L, (Q v B.U.vm B.U.heap ∧ Fr nf L) ∧ B.locs = A.locs ++ L ∧ B.cells = A.cells + rm.cells ∧ B.slots = A.slots + rm.slots) :=
  BackS.of_freeW (bytes := bytes) (maxL := maxL) (ret := rt) (E := fun _ _ o t L k n => k = rm.cells ∧ n = rm.slots ∧ ∃ v, o = .returned v ∧ (Q v t.vm t.heap ∧ Fr nf L)) hM hf hl
    (fun m meth c A a Y hp => have hU : Z.Warmed39 A.U.vm := wtrans hZ Y.warmed
      ⟨by show (Cond.and _ .tt).before a A.U = true; rw [Cond.before_and, mv hU wc]; rfl, mv hU wc, mv hU wz, hp.2.2.2.1, hp.2.2.2.2⟩)
    (fun m meth c A a g mk Y hp => ⟨hp.1, wtrans hZ Y.warmed, hp.2.1, hp.2.2.1⟩) (fun _ _ _ _ _ _ _ _ _ => trivial)
    (fun _ _ _ _ ⟨v, L, h1, h2, h3⟩ => ⟨L, _, _, h3, rfl, rfl, v, h1, h2⟩)
    (fun m meth c A a g mk v t L k n Y hp _ _ ⟨e1, e2, v', e3, e4⟩ => by cases e3; subst e1 e2; exact ⟨L, e4, rfl, rfl, rfl⟩)
theorem g_callSW (C : Cx p (s0.setVm vm0) m meth c Z own nm code ml ret) {y : MethodName} {bytes : ByteArray} {maxL : Nat} {rt : Option FieldType} {rm : Room} {P : Vm → Prop} {Q : Option Value → Vm → Heap → Prop} {index W : Nat} {argsL : List Value} (Sw : Sn s0 vm0 h) (d : decode code pc = .ok (.invokestatic index, 3)) (w1 : (Cond.methodLink own index y).before a0 Z = true) (w2 : (Cond.static y).before a0 Z = true) (w3 : (Cond.initialized y.cls).before a0 Z = true) (w4 : (Cond.code y bytes maxL rt).before a0 Z = true) (hy : y.cls ≠ "java/lang/invoke/MethodHandle" ∧ y.cls ≠ "java/lang/invoke/VarHandle")
    (M : CtrW l Z y bytes maxL rt rm argsL.toArray h n0 P Q) (hf : rm.frames + 1 ≤ R.frames) (hl : W + (maxL + 11) + rm.locals ≤ R.locals) (hc : k + rm.cells ≤ R.cells) (hs : n + rm.slots ≤ R.slots) (hsz : Ls.size = ml) (hlen : ∀ sig, parseMethodDescriptor y.desc = some sig → argsL.length = sig.parameters.length) (hst : st = argsL.reverse ++ rest) (hW : (rest.map fun v => v.category).sum = W) (hq : pc + 3 = q)
    (hP : ∀ vm1, (s0.setVm vm0).WarmedH vm1 → P vm1) (K : ∀ v vm1 h', Q v vm1 h' → Cx p (s0.setVm vm1) m meth c Z own nm code ml ret → Sn s0 vm1 h' → (s0.setVm vm0).Warmed39 vm1 → ∃ st', st' = v.toList ++ rest ∧ Go p l e R (s0.setVm vm1) m args below meth c Ph n0 h' (k + rm.cells) (n + rm.slots) q Ls st') : Go p l e R (s0.setVm vm0) m args below meth c Ph n0 h k n pc Ls st := fun T locs X N eT => by
  have hZ := C.2.2.2.2.1
  obtain ⟨v, vm1, ⟨T', L', k', n'⟩, -, X', hS1, hle, ⟨L, ⟨hQ, NL⟩, l1, l2, l3⟩, stp⟩ := callSS X C.1 (y := y) C.2.2.2.1 (mvT hZ w1) (mvT hZ w2) (mvT hZ w3) (mvT hZ w4) hy (backOfW (W := W) M hZ w4 w3 hf hl) (g := mkF m pc Ls st) rfl (hsz.trans C.2.2.1.symm) (argsL := argsL) (rest := rest) hlen hst (by show 2 * 0 + _ ≤ _; rw [hW]; omega) (hb C.2.1 d) (fun vm1 hW1 => ⟨rfl, eT, hP vm1 hW1, hc, hs⟩)
  dsimp only [Pt.U, Pt.locs, Pt.cells, Pt.slots] at X' hS1 hle l1 l2 l3 stp
  subst l1 l2 l3
  obtain ⟨k0, hS, hk0⟩ := Sw
  have hZ1 : Z.Warmed39 T'.vm := State.Warmed39.trans (t := s0.setVm vm0) hZ hS1.1
  obtain ⟨st', hst', K'⟩ := K v _ _ hQ ⟨C.1, C.2.1, C.2.2.1, by rw [show (s0.setVm T'.vm).vm = T'.vm from rfl, hS1.1.alike.findClass]; exact C.2.2.2.1, hZ1, C.2.2.2.2.2⟩ ⟨_, foldS (T := T) hS (by rw [eT]; exact hk0) hS1 hle, Nat.le_refl _⟩ hS1.1
  obtain ⟨s₂, v', S, r⟩ := K' _ _ X' (N.app NL) rfl
  exact ⟨s₂, v', stp.trans (by subst hq hst'; exact S), r⟩
theorem g_callIW (C : Cx p (s0.setVm vm0) m meth c Z own nm code ml ret) {y : MethodName} {bytes : ByteArray} {maxL : Nat} {rm : Room} {P : Vm → Prop} {Q : Option Value → Vm → Heap → Prop} {index W : Nat} {argsL : List Value} {a : Addr} (Sw : Sn s0 vm0 h) (d : decode code pc = .ok (.invokespecial index, 3)) (hy1 : y.name = "<init>") (w1 : (Cond.methodLink own index y).before a0 Z = true) (w2 : (Cond.instanceMethod y).before a0 Z = true) (w3 : (Cond.initialized y.cls).before a0 Z = true) (w4 : (Cond.code y bytes maxL none).before a0 Z = true) (hy : y.cls ≠ "java/lang/invoke/MethodHandle" ∧ y.cls ≠ "java/lang/invoke/VarHandle")
    (M : CtrW l Z y bytes maxL none rm (.ref a :: argsL).toArray h n0 P Q) (hf : rm.frames + 1 ≤ R.frames) (hl : W + (maxL + 11) + rm.locals ≤ R.locals) (hc : k + rm.cells ≤ R.cells) (hs : n + rm.slots ≤ R.slots) (hsz : Ls.size = ml) (hlen : ∀ sig, parseMethodDescriptor y.desc = some sig → argsL.length = sig.parameters.length) (hst : st = argsL.reverse ++ .ref a :: rest) (hW : (rest.map fun v => v.category).sum = W) (hq : pc + 3 = q)
    (hP : ∀ vm1, (s0.setVm vm0).WarmedH vm1 → P vm1) (K : ∀ v vm1 h', Q v vm1 h' → Cx p (s0.setVm vm1) m meth c Z own nm code ml ret → Sn s0 vm1 h' → (s0.setVm vm0).Warmed39 vm1 → ∃ st', st' = v.toList ++ rest ∧ Go p l e R (s0.setVm vm1) m args below meth c Ph n0 h' (k + rm.cells) (n + rm.slots) q Ls st') : Go p l e R (s0.setVm vm0) m args below meth c Ph n0 h k n pc Ls st := fun T locs X N eT => by
  have hZ := C.2.2.2.2.1
  obtain ⟨v, vm1, ⟨T', L', k', n'⟩, -, X', hS1, hle, ⟨L, ⟨hQ, NL⟩, l1, l2, l3⟩, stp⟩ := X.specialBackS C.1 (y := y) hy1 C.2.2.2.1 (mvT hZ w1) (mvT hZ w2) (mvT hZ w4) hy (backOfW (W := W) M hZ w4 w3 hf hl) (g := mkF m pc Ls st) rfl (hsz.trans C.2.2.1.symm) (Steps.refl _) (a := a) (argsL := argsL) (rest := rest) hlen hst (by show 2 * 0 + _ ≤ _; rw [hW]; omega) (hb C.2.1 d) (fun vm1 hW1 => ⟨rfl, eT, hP vm1 hW1, hc, hs⟩)
  dsimp only [Pt.U, Pt.locs, Pt.cells, Pt.slots] at X' hS1 hle l1 l2 l3 stp
  subst l1 l2 l3
  obtain ⟨k0, hS, hk0⟩ := Sw
  have hZ1 : Z.Warmed39 T'.vm := State.Warmed39.trans (t := s0.setVm vm0) hZ hS1.1
  obtain ⟨st', hst', K'⟩ := K v _ _ hQ ⟨C.1, C.2.1, C.2.2.1, by rw [show (s0.setVm T'.vm).vm = T'.vm from rfl, hS1.1.alike.findClass]; exact C.2.2.2.1, hZ1, C.2.2.2.2.2⟩ ⟨_, foldS (T := T) hS (by rw [eT]; exact hk0) hS1 hle, Nat.le_refl _⟩ hS1.1
  obtain ⟨s₂, v', S, r⟩ := K' _ _ X' (N.app NL) rfl
  exact ⟨s₂, v', stp.trans (by subst hq hst'; exact S), r⟩
theorem g_callVW (C : Cx p (s0.setVm vm0) m meth c Z own nm code ml ret) {y : MethodName} {bytes : ByteArray} {maxL : Nat} {rt : Option FieldType} {rm : Room} {P : Vm → Prop} {Q : Option Value → Vm → Heap → Prop} {index W : Nat} {argsL : List Value} {y0 : MethodName} {Cl : String} {a : Addr} (Sw : Sn s0 vm0 h) (d : decode code pc = .ok (.invokevirtual index, 3)) (w1 : (Cond.methodLink own index y0).before a0 Z = true) (w2 : (Cond.declares y0).before a0 Z = true) (w5 : (Cond.selects Cl y0 y).before a0 Z = true) (w6 : (Cond.instanceMethod y).before a0 Z = true) (w3 : (Cond.initialized y.cls).before a0 Z = true) (w4 : (Cond.code y bytes maxL rt).before a0 Z = true) (hy : y0.cls ≠ "java/lang/invoke/MethodHandle" ∧ y0.cls ≠ "java/lang/invoke/VarHandle") (hnf : NotFace (s0.setVm vm0) y0)
    (E : Exa Z h a Cl) (M : CtrW l Z y bytes maxL rt rm (.ref a :: argsL).toArray h n0 P Q) (hf : rm.frames + 1 ≤ R.frames) (hl : W + (maxL + 11) + rm.locals ≤ R.locals) (hc : k + rm.cells ≤ R.cells) (hs : n + rm.slots ≤ R.slots) (hsz : Ls.size = ml) (hlen : ∀ sig, parseMethodDescriptor y0.desc = some sig → argsL.length = sig.parameters.length) (hst : st = argsL.reverse ++ .ref a :: rest) (hW : (rest.map fun v => v.category).sum = W) (hq : pc + 3 = q)
    (hP : ∀ vm1, (s0.setVm vm0).WarmedH vm1 → P vm1) (K : ∀ v vm1 h', Q v vm1 h' → Cx p (s0.setVm vm1) m meth c Z own nm code ml ret → Sn s0 vm1 h' → (s0.setVm vm0).Warmed39 vm1 → ∃ st', st' = v.toList ++ rest ∧ Go p l e R (s0.setVm vm1) m args below meth c Ph n0 h' (k + rm.cells) (n + rm.slots) q Ls st') : Go p l e R (s0.setVm vm0) m args below meth c Ph n0 h k n pc Ls st := fun T locs X N eT => by
  have hZ := C.2.2.2.2.1
  obtain ⟨cq, kq, qa, qb, qc⟩ := isOf hZ eT E
  obtain ⟨v, vm1, ⟨T', L', k', n'⟩, -, X', hS1, hle, ⟨L, ⟨hQ, NL⟩, l1, l2, l3⟩, stp⟩ := X.virtualBackS C.1 (y := y0) (z := y) C.2.2.2.1 (mvT hZ w1) (mvT hZ w2) hnf (mvT hZ w5) (mvT hZ w6) hy (backOfW (W := W) M hZ w4 w3 hf hl) qa qc (g := mkF m pc Ls st) rfl (hsz.trans C.2.2.1.symm) (Steps.refl _) (argsL := argsL) (rest := rest) hlen hst (by show 2 * 0 + _ ≤ _; rw [hW]; omega) (hb C.2.1 d) (fun vm1 hW1 => ⟨rfl, eT, hP vm1 hW1, hc, hs⟩)
  dsimp only [Pt.U, Pt.locs, Pt.cells, Pt.slots] at X' hS1 hle l1 l2 l3 stp
  subst l1 l2 l3
  obtain ⟨k0, hS, hk0⟩ := Sw
  have hZ1 : Z.Warmed39 T'.vm := State.Warmed39.trans (t := s0.setVm vm0) hZ hS1.1
  obtain ⟨st', hst', K'⟩ := K v _ _ hQ ⟨C.1, C.2.1, C.2.2.1, by rw [show (s0.setVm T'.vm).vm = T'.vm from rfl, hS1.1.alike.findClass]; exact C.2.2.2.1, hZ1, C.2.2.2.2.2⟩ ⟨_, foldS (T := T) hS (by rw [eT]; exact hk0) hS1 hle, Nat.le_refl _⟩ hS1.1
  obtain ⟨s₂, v', S, r⟩ := K' _ _ X' (N.app NL) rfl
  exact ⟨s₂, v', stp.trans (by subst hq hst'; exact S), r⟩
end GoWide
end Jvm.Pilot.@@N@@

namespace Jvm.Pilot.@@N@@
open Jvm Jvm.ClassFile Sem Op Lib Jvm.Free Jvm.Stand Jvm.LawKit Jvm.RoadKit Bundle Jvm.Pilot.@@N@@.Jvm.D
theorem wd0 {Z : State} {a0 : Array Value} (hw : ∀ d ∈ tables_1, d.before a0 Z = true) : (Jvm.Cond.constant "com/example/notice_to_drain/noticetodrain/drain/HookOutcomeUnstartedPinLaw" (7 : Nat) (2147483647 : Int32)).before a0 Z = true := hw _ (List.mem_of_getElem? (i := 0) rfl)
theorem wd1 {Z : State} {a0 : Array Value} (hw : ∀ d ∈ tables_1, d.before a0 Z = true) : (Jvm.Cond.classLink "com/example/notice_to_drain/noticetodrain/drain/HookOutcomeUnstartedPinLaw" (8 : Nat) "java/lang/String").before a0 Z = true := hw _ (List.mem_of_getElem? (i := 1) rfl)
theorem wd2 {Z : State} {a0 : Array Value} (hw : ∀ d ∈ tables_1, d.before a0 Z = true) : (Jvm.Cond.instantiable "java/lang/String" (4 : Nat)).before a0 Z = true := hw _ (List.mem_of_getElem? (i := 2) rfl)
theorem wd3 {Z : State} {a0 : Array Value} (hw : ∀ d ∈ tables_1, d.before a0 Z = true) : (Jvm.Cond.initialized "java/lang/String").before a0 Z = true := hw _ (List.mem_of_getElem? (i := 3) rfl)
theorem wd4 {Z : State} {a0 : Array Value} (hw : ∀ d ∈ tables_1, d.before a0 Z = true) : (Jvm.Cond.arrayClass Jvm.ClassFile.FieldType.char).before a0 Z = true := hw _ (List.mem_of_getElem? (i := 4) rfl)
theorem wd5 {Z : State} {a0 : Array Value} (hw : ∀ d ∈ tables_1, d.before a0 Z = true) : (Jvm.Cond.methodLink "com/example/notice_to_drain/noticetodrain/drain/HookOutcomeUnstartedPinLaw" (10 : Nat) ({ cls := "java/lang/String", name := "<init>", desc := "([C)V" } : Jvm.MethodName)).before a0 Z = true := hw _ (List.mem_of_getElem? (i := 5) rfl)
theorem wd6 {Z : State} {a0 : Array Value} (hw : ∀ d ∈ tables_1, d.before a0 Z = true) : (Jvm.Cond.instanceMethod ({ cls := "java/lang/String", name := "<init>", desc := "([C)V" } : Jvm.MethodName)).before a0 Z = true := hw _ (List.mem_of_getElem? (i := 6) rfl)
theorem wd7 {Z : State} {a0 : Array Value} (hw : ∀ d ∈ tables_1, d.before a0 Z = true) : (Jvm.Cond.code ({ cls := "java/lang/String", name := "<init>", desc := "([C)V" } : Jvm.MethodName) jdk_42_method_3_code (2 : Nat) (Option.none : Option Jvm.ClassFile.FieldType)).before a0 Z = true := hw _ (List.mem_of_getElem? (i := 7) rfl)
theorem wd8 {Z : State} {a0 : Array Value} (hw : ∀ d ∈ tables_1, d.before a0 Z = true) : (Jvm.Cond.methodLink "java/lang/String" (27 : Nat) ({ cls := "java/lang/String", name := "<init>", desc := "([CIILjava/lang/Void;)V" } : Jvm.MethodName)).before a0 Z = true := hw _ (List.mem_of_getElem? (i := 8) rfl)
theorem wd9 {Z : State} {a0 : Array Value} (hw : ∀ d ∈ tables_1, d.before a0 Z = true) : (Jvm.Cond.instanceMethod ({ cls := "java/lang/String", name := "<init>", desc := "([CIILjava/lang/Void;)V" } : Jvm.MethodName)).before a0 Z = true := hw _ (List.mem_of_getElem? (i := 9) rfl)
theorem wd11 {Z : State} {a0 : Array Value} (hw : ∀ d ∈ tables_1, d.before a0 Z = true) : (Jvm.Cond.code ({ cls := "java/lang/String", name := "<init>", desc := "([CIILjava/lang/Void;)V" } : Jvm.MethodName) jdk_42_method_149_code (6 : Nat) (Option.none : Option Jvm.ClassFile.FieldType)).before a0 Z = true := hw _ (List.mem_of_getElem? (i := 11) rfl)
theorem wd12 {Z : State} {a0 : Array Value} (hw : ∀ d ∈ tables_1, d.before a0 Z = true) : (Jvm.Cond.methodLink "java/lang/String" (1 : Nat) ({ cls := "java/lang/Object", name := "<init>", desc := "()V" } : Jvm.MethodName)).before a0 Z = true := hw _ (List.mem_of_getElem? (i := 12) rfl)
theorem wd13 {Z : State} {a0 : Array Value} (hw : ∀ d ∈ tables_1, d.before a0 Z = true) : (Jvm.Cond.instanceMethod ({ cls := "java/lang/Object", name := "<init>", desc := "()V" } : Jvm.MethodName)).before a0 Z = true := hw _ (List.mem_of_getElem? (i := 13) rfl)
theorem wd14 {Z : State} {a0 : Array Value} (hw : ∀ d ∈ tables_1, d.before a0 Z = true) : (Jvm.Cond.code ({ cls := "java/lang/Object", name := "<init>", desc := "()V" } : Jvm.MethodName) object_method_1_code (1 : Nat) (Option.none : Option Jvm.ClassFile.FieldType)).before a0 Z = true := hw _ (List.mem_of_getElem? (i := 14) rfl)
theorem wd15 {Z : State} {a0 : Array Value} (hw : ∀ d ∈ tables_1, d.before a0 Z = true) : (Jvm.Cond.stringLink "java/lang/String" (7 : Nat) "").before a0 Z = true := hw _ (List.mem_of_getElem? (i := 15) rfl)
theorem wd16 {Z : State} {a0 : Array Value} (hw : ∀ d ∈ tables_1, d.before a0 Z = true) : (Jvm.Cond.arrayClass Jvm.ClassFile.FieldType.byte).before a0 Z = true := hw _ (List.mem_of_getElem? (i := 16) rfl)
theorem wd17 {Z : State} {a0 : Array Value} (hw : ∀ d ∈ tables_1, d.before a0 Z = true) : (Jvm.Cond.laysFinal "java/lang/String" "java/lang/String" "value" "[B").before a0 Z = true := hw _ (List.mem_of_getElem? (i := 17) rfl)
theorem wd18 {Z : State} {a0 : Array Value} (hw : ∀ d ∈ tables_1, d.before a0 Z = true) : (Jvm.Cond.laysFinal "java/lang/String" "java/lang/String" "coder" "B").before a0 Z = true := hw _ (List.mem_of_getElem? (i := 18) rfl)
theorem wd21 {Z : State} {a0 : Array Value} (hw : ∀ d ∈ tables_1, d.before a0 Z = true) : (Jvm.Cond.fieldLink "java/lang/String" (9 : Nat) "java/lang/String" "value" "[B").before a0 Z = true := hw _ (List.mem_of_getElem? (i := 21) rfl)
theorem wd22 {Z : State} {a0 : Array Value} (hw : ∀ d ∈ tables_1, d.before a0 Z = true) : (Jvm.Cond.fieldLink "java/lang/String" (15 : Nat) "java/lang/String" "coder" "B").before a0 Z = true := hw _ (List.mem_of_getElem? (i := 22) rfl)
theorem wd23 {Z : State} {a0 : Array Value} (hw : ∀ d ∈ tables_1, d.before a0 Z = true) : (Jvm.Cond.fieldLink "java/lang/String" (38 : Nat) "java/lang/String" "COMPACT_STRINGS" "Z").before a0 Z = true := hw _ (List.mem_of_getElem? (i := 23) rfl)
theorem wd34 {Z : State} {a0 : Array Value} (hw : ∀ d ∈ tables_1, d.before a0 Z = true) : (Jvm.Cond.methodLink "com/example/notice_to_drain/noticetodrain/drain/HookOutcomeUnstartedPinLaw" (13 : Nat) ({ cls := "com/example/notice_to_drain/noticetodrain/drain/HookOutcome", name := "unstarted", desc := "(Ljava/lang/String;)Lcom/example/notice_to_drain/noticetodrain/drain/HookOutcome;" } : Jvm.MethodName)).before a0 Z = true := hw _ (List.mem_of_getElem? (i := 34) rfl)
theorem wd35 {Z : State} {a0 : Array Value} (hw : ∀ d ∈ tables_1, d.before a0 Z = true) : (Jvm.Cond.static ({ cls := "com/example/notice_to_drain/noticetodrain/drain/HookOutcome", name := "unstarted", desc := "(Ljava/lang/String;)Lcom/example/notice_to_drain/noticetodrain/drain/HookOutcome;" } : Jvm.MethodName)).before a0 Z = true := hw _ (List.mem_of_getElem? (i := 35) rfl)
theorem wd36 {Z : State} {a0 : Array Value} (hw : ∀ d ∈ tables_1, d.before a0 Z = true) : (Jvm.Cond.initialized "com/example/notice_to_drain/noticetodrain/drain/HookOutcome").before a0 Z = true := hw _ (List.mem_of_getElem? (i := 36) rfl)
theorem wd37 {Z : State} {a0 : Array Value} (hw : ∀ d ∈ tables_1, d.before a0 Z = true) : (Jvm.Cond.code ({ cls := "com/example/notice_to_drain/noticetodrain/drain/HookOutcome", name := "unstarted", desc := "(Ljava/lang/String;)Lcom/example/notice_to_drain/noticetodrain/drain/HookOutcome;" } : Jvm.MethodName) prog_5_method_3_code (1 : Nat) (Option.some (Jvm.ClassFile.FieldType.object "com/example/notice_to_drain/noticetodrain/drain/HookOutcome"))).before a0 Z = true := hw _ (List.mem_of_getElem? (i := 37) rfl)
theorem wd38 {Z : State} {a0 : Array Value} (hw : ∀ d ∈ tables_1, d.before a0 Z = true) : (Jvm.Cond.classLink "com/example/notice_to_drain/noticetodrain/drain/HookOutcome" (8 : Nat) "com/example/notice_to_drain/noticetodrain/drain/HookOutcome").before a0 Z = true := hw _ (List.mem_of_getElem? (i := 38) rfl)
theorem wd39 {Z : State} {a0 : Array Value} (hw : ∀ d ∈ tables_1, d.before a0 Z = true) : (Jvm.Cond.instantiable "com/example/notice_to_drain/noticetodrain/drain/HookOutcome" (3 : Nat)).before a0 Z = true := hw _ (List.mem_of_getElem? (i := 39) rfl)
theorem wd40 {Z : State} {a0 : Array Value} (hw : ∀ d ∈ tables_1, d.before a0 Z = true) : (Jvm.Cond.fieldLink "com/example/notice_to_drain/noticetodrain/drain/HookOutcome" (35 : Nat) "com/example/notice_to_drain/noticetodrain/drain/HookOutcome$Ending" "UNSTARTED" "Lcom/example/notice_to_drain/noticetodrain/drain/HookOutcome$Ending;").before a0 Z = true := hw _ (List.mem_of_getElem? (i := 40) rfl)
theorem wd41 {Z : State} {a0 : Array Value} (hw : ∀ d ∈ tables_1, d.before a0 Z = true) : (Jvm.Cond.initialized "com/example/notice_to_drain/noticetodrain/drain/HookOutcome$Ending").before a0 Z = true := hw _ (List.mem_of_getElem? (i := 41) rfl)
theorem wd42 {Z : State} {a0 : Array Value} (hw : ∀ d ∈ tables_1, d.before a0 Z = true) : (Jvm.Cond.laysStatic "com/example/notice_to_drain/noticetodrain/drain/HookOutcome$Ending" "UNSTARTED" "Lcom/example/notice_to_drain/noticetodrain/drain/HookOutcome$Ending;").before a0 Z = true := hw _ (List.mem_of_getElem? (i := 42) rfl)
theorem wd43 {Z : State} {a0 : Array Value} (hw : ∀ d ∈ tables_1, d.before a0 Z = true) : (Jvm.Cond.methodLink "com/example/notice_to_drain/noticetodrain/drain/HookOutcome" (32 : Nat) ({ cls := "com/example/notice_to_drain/noticetodrain/drain/HookOutcome", name := "<init>", desc := "(Ljava/lang/String;Lcom/example/notice_to_drain/noticetodrain/drain/HookOutcome$Ending;Ljava/lang/Integer;)V" } : Jvm.MethodName)).before a0 Z = true := hw _ (List.mem_of_getElem? (i := 43) rfl)
theorem wd44 {Z : State} {a0 : Array Value} (hw : ∀ d ∈ tables_1, d.before a0 Z = true) : (Jvm.Cond.instanceMethod ({ cls := "com/example/notice_to_drain/noticetodrain/drain/HookOutcome", name := "<init>", desc := "(Ljava/lang/String;Lcom/example/notice_to_drain/noticetodrain/drain/HookOutcome$Ending;Ljava/lang/Integer;)V" } : Jvm.MethodName)).before a0 Z = true := hw _ (List.mem_of_getElem? (i := 44) rfl)
theorem wd45 {Z : State} {a0 : Array Value} (hw : ∀ d ∈ tables_1, d.before a0 Z = true) : (Jvm.Cond.code ({ cls := "com/example/notice_to_drain/noticetodrain/drain/HookOutcome", name := "<init>", desc := "(Ljava/lang/String;Lcom/example/notice_to_drain/noticetodrain/drain/HookOutcome$Ending;Ljava/lang/Integer;)V" } : Jvm.MethodName) prog_5_method_1_code (4 : Nat) (Option.none : Option Jvm.ClassFile.FieldType)).before a0 Z = true := hw _ (List.mem_of_getElem? (i := 45) rfl)
theorem wd46 {Z : State} {a0 : Array Value} (hw : ∀ d ∈ tables_1, d.before a0 Z = true) : (Jvm.Cond.methodLink "com/example/notice_to_drain/noticetodrain/drain/HookOutcome" (1 : Nat) ({ cls := "java/lang/Object", name := "<init>", desc := "()V" } : Jvm.MethodName)).before a0 Z = true := hw _ (List.mem_of_getElem? (i := 46) rfl)
theorem wd47 {Z : State} {a0 : Array Value} (hw : ∀ d ∈ tables_1, d.before a0 Z = true) : (Jvm.Cond.fieldLink "com/example/notice_to_drain/noticetodrain/drain/HookOutcome" (7 : Nat) "com/example/notice_to_drain/noticetodrain/drain/HookOutcome" "hook" "Ljava/lang/String;").before a0 Z = true := hw _ (List.mem_of_getElem? (i := 47) rfl)
theorem wd48 {Z : State} {a0 : Array Value} (hw : ∀ d ∈ tables_1, d.before a0 Z = true) : (Jvm.Cond.laysFinal "com/example/notice_to_drain/noticetodrain/drain/HookOutcome" "com/example/notice_to_drain/noticetodrain/drain/HookOutcome" "hook" "Ljava/lang/String;").before a0 Z = true := hw _ (List.mem_of_getElem? (i := 48) rfl)
theorem wd49 {Z : State} {a0 : Array Value} (hw : ∀ d ∈ tables_1, d.before a0 Z = true) : (Jvm.Cond.fieldLink "com/example/notice_to_drain/noticetodrain/drain/HookOutcome" (13 : Nat) "com/example/notice_to_drain/noticetodrain/drain/HookOutcome" "ending" "Lcom/example/notice_to_drain/noticetodrain/drain/HookOutcome$Ending;").before a0 Z = true := hw _ (List.mem_of_getElem? (i := 49) rfl)
theorem wd50 {Z : State} {a0 : Array Value} (hw : ∀ d ∈ tables_1, d.before a0 Z = true) : (Jvm.Cond.laysFinal "com/example/notice_to_drain/noticetodrain/drain/HookOutcome" "com/example/notice_to_drain/noticetodrain/drain/HookOutcome" "ending" "Lcom/example/notice_to_drain/noticetodrain/drain/HookOutcome$Ending;").before a0 Z = true := hw _ (List.mem_of_getElem? (i := 50) rfl)
theorem wd51 {Z : State} {a0 : Array Value} (hw : ∀ d ∈ tables_1, d.before a0 Z = true) : (Jvm.Cond.fieldLink "com/example/notice_to_drain/noticetodrain/drain/HookOutcome" (17 : Nat) "com/example/notice_to_drain/noticetodrain/drain/HookOutcome" "exitStatus" "Ljava/lang/Integer;").before a0 Z = true := hw _ (List.mem_of_getElem? (i := 51) rfl)
theorem wd52 {Z : State} {a0 : Array Value} (hw : ∀ d ∈ tables_1, d.before a0 Z = true) : (Jvm.Cond.laysFinal "com/example/notice_to_drain/noticetodrain/drain/HookOutcome" "com/example/notice_to_drain/noticetodrain/drain/HookOutcome" "exitStatus" "Ljava/lang/Integer;").before a0 Z = true := hw _ (List.mem_of_getElem? (i := 52) rfl)
theorem wd53 {Z : State} {a0 : Array Value} (hw : ∀ d ∈ tables_1, d.before a0 Z = true) : (Jvm.Cond.methodLink "com/example/notice_to_drain/noticetodrain/drain/HookOutcomeUnstartedPinLaw" (19 : Nat) ({ cls := "com/example/notice_to_drain/noticetodrain/drain/HookOutcome", name := "hook", desc := "()Ljava/lang/String;" } : Jvm.MethodName)).before a0 Z = true := hw _ (List.mem_of_getElem? (i := 53) rfl)
theorem wd54 {Z : State} {a0 : Array Value} (hw : ∀ d ∈ tables_1, d.before a0 Z = true) : (Jvm.Cond.declares ({ cls := "com/example/notice_to_drain/noticetodrain/drain/HookOutcome", name := "hook", desc := "()Ljava/lang/String;" } : Jvm.MethodName)).before a0 Z = true := hw _ (List.mem_of_getElem? (i := 54) rfl)
theorem wd55 {Z : State} {a0 : Array Value} (hw : ∀ d ∈ tables_1, d.before a0 Z = true) : (Jvm.Cond.instanceMethod ({ cls := "com/example/notice_to_drain/noticetodrain/drain/HookOutcome", name := "hook", desc := "()Ljava/lang/String;" } : Jvm.MethodName)).before a0 Z = true := hw _ (List.mem_of_getElem? (i := 55) rfl)
theorem wd56 {Z : State} {a0 : Array Value} (hw : ∀ d ∈ tables_1, d.before a0 Z = true) : (Jvm.Cond.selects "com/example/notice_to_drain/noticetodrain/drain/HookOutcome" ({ cls := "com/example/notice_to_drain/noticetodrain/drain/HookOutcome", name := "hook", desc := "()Ljava/lang/String;" } : Jvm.MethodName) ({ cls := "com/example/notice_to_drain/noticetodrain/drain/HookOutcome", name := "hook", desc := "()Ljava/lang/String;" } : Jvm.MethodName)).before a0 Z = true := hw _ (List.mem_of_getElem? (i := 56) rfl)
theorem wd57 {Z : State} {a0 : Array Value} (hw : ∀ d ∈ tables_1, d.before a0 Z = true) : (Jvm.Cond.code ({ cls := "com/example/notice_to_drain/noticetodrain/drain/HookOutcome", name := "hook", desc := "()Ljava/lang/String;" } : Jvm.MethodName) prog_5_method_6_code (1 : Nat) (Option.some (Jvm.ClassFile.FieldType.object "java/lang/String"))).before a0 Z = true := hw _ (List.mem_of_getElem? (i := 57) rfl)
theorem wd58 {Z : State} {a0 : Array Value} (hw : ∀ d ∈ tables_1, d.before a0 Z = true) : (Jvm.Cond.methodLink "com/example/notice_to_drain/noticetodrain/drain/HookOutcomeUnstartedPinLaw" (23 : Nat) ({ cls := "java/lang/String", name := "equals", desc := "(Ljava/lang/Object;)Z" } : Jvm.MethodName)).before a0 Z = true := hw _ (List.mem_of_getElem? (i := 58) rfl)
theorem wd59 {Z : State} {a0 : Array Value} (hw : ∀ d ∈ tables_1, d.before a0 Z = true) : (Jvm.Cond.declares ({ cls := "java/lang/String", name := "equals", desc := "(Ljava/lang/Object;)Z" } : Jvm.MethodName)).before a0 Z = true := hw _ (List.mem_of_getElem? (i := 59) rfl)
theorem wd60 {Z : State} {a0 : Array Value} (hw : ∀ d ∈ tables_1, d.before a0 Z = true) : (Jvm.Cond.instanceMethod ({ cls := "java/lang/String", name := "equals", desc := "(Ljava/lang/Object;)Z" } : Jvm.MethodName)).before a0 Z = true := hw _ (List.mem_of_getElem? (i := 60) rfl)
theorem wd61 {Z : State} {a0 : Array Value} (hw : ∀ d ∈ tables_1, d.before a0 Z = true) : (Jvm.Cond.selects "java/lang/String" ({ cls := "java/lang/String", name := "equals", desc := "(Ljava/lang/Object;)Z" } : Jvm.MethodName) ({ cls := "java/lang/String", name := "equals", desc := "(Ljava/lang/Object;)Z" } : Jvm.MethodName)).before a0 Z = true := hw _ (List.mem_of_getElem? (i := 61) rfl)
theorem wd62 {Z : State} {a0 : Array Value} (hw : ∀ d ∈ tables_1, d.before a0 Z = true) : (Jvm.Cond.code ({ cls := "java/lang/String", name := "equals", desc := "(Ljava/lang/Object;)Z" } : Jvm.MethodName) jdk_42_method_66_code (3 : Nat) (Option.some Jvm.ClassFile.FieldType.boolean)).before a0 Z = true := hw _ (List.mem_of_getElem? (i := 62) rfl)
theorem wd63 {Z : State} {a0 : Array Value} (hw : ∀ d ∈ tables_1, d.before a0 Z = true) : (Jvm.Cond.methodLink "com/example/notice_to_drain/noticetodrain/drain/HookOutcomeUnstartedPinLaw" (27 : Nat) ({ cls := "com/example/notice_to_drain/noticetodrain/drain/HookOutcome", name := "exitStatus", desc := "()Ljava/util/OptionalInt;" } : Jvm.MethodName)).before a0 Z = true := hw _ (List.mem_of_getElem? (i := 63) rfl)
theorem wd64 {Z : State} {a0 : Array Value} (hw : ∀ d ∈ tables_1, d.before a0 Z = true) : (Jvm.Cond.declares ({ cls := "com/example/notice_to_drain/noticetodrain/drain/HookOutcome", name := "exitStatus", desc := "()Ljava/util/OptionalInt;" } : Jvm.MethodName)).before a0 Z = true := hw _ (List.mem_of_getElem? (i := 64) rfl)
theorem wd65 {Z : State} {a0 : Array Value} (hw : ∀ d ∈ tables_1, d.before a0 Z = true) : (Jvm.Cond.instanceMethod ({ cls := "com/example/notice_to_drain/noticetodrain/drain/HookOutcome", name := "exitStatus", desc := "()Ljava/util/OptionalInt;" } : Jvm.MethodName)).before a0 Z = true := hw _ (List.mem_of_getElem? (i := 65) rfl)
theorem wd66 {Z : State} {a0 : Array Value} (hw : ∀ d ∈ tables_1, d.before a0 Z = true) : (Jvm.Cond.selects "com/example/notice_to_drain/noticetodrain/drain/HookOutcome" ({ cls := "com/example/notice_to_drain/noticetodrain/drain/HookOutcome", name := "exitStatus", desc := "()Ljava/util/OptionalInt;" } : Jvm.MethodName) ({ cls := "com/example/notice_to_drain/noticetodrain/drain/HookOutcome", name := "exitStatus", desc := "()Ljava/util/OptionalInt;" } : Jvm.MethodName)).before a0 Z = true := hw _ (List.mem_of_getElem? (i := 66) rfl)
theorem wd67 {Z : State} {a0 : Array Value} (hw : ∀ d ∈ tables_1, d.before a0 Z = true) : (Jvm.Cond.code ({ cls := "com/example/notice_to_drain/noticetodrain/drain/HookOutcome", name := "exitStatus", desc := "()Ljava/util/OptionalInt;" } : Jvm.MethodName) prog_5_method_7_code (1 : Nat) (Option.some (Jvm.ClassFile.FieldType.object "java/util/OptionalInt"))).before a0 Z = true := hw _ (List.mem_of_getElem? (i := 67) rfl)
theorem wd68 {Z : State} {a0 : Array Value} (hw : ∀ d ∈ tables_1, d.before a0 Z = true) : (Jvm.Cond.methodLink "com/example/notice_to_drain/noticetodrain/drain/HookOutcome" (44 : Nat) ({ cls := "java/util/OptionalInt", name := "empty", desc := "()Ljava/util/OptionalInt;" } : Jvm.MethodName)).before a0 Z = true := hw _ (List.mem_of_getElem? (i := 68) rfl)
theorem wd69 {Z : State} {a0 : Array Value} (hw : ∀ d ∈ tables_1, d.before a0 Z = true) : (Jvm.Cond.static ({ cls := "java/util/OptionalInt", name := "empty", desc := "()Ljava/util/OptionalInt;" } : Jvm.MethodName)).before a0 Z = true := hw _ (List.mem_of_getElem? (i := 69) rfl)
theorem wd70 {Z : State} {a0 : Array Value} (hw : ∀ d ∈ tables_1, d.before a0 Z = true) : (Jvm.Cond.initialized "java/util/OptionalInt").before a0 Z = true := hw _ (List.mem_of_getElem? (i := 70) rfl)
theorem wd71 {Z : State} {a0 : Array Value} (hw : ∀ d ∈ tables_1, d.before a0 Z = true) : (Jvm.Cond.code ({ cls := "java/util/OptionalInt", name := "empty", desc := "()Ljava/util/OptionalInt;" } : Jvm.MethodName) jdk_2649_method_2_code (0 : Nat) (Option.some (Jvm.ClassFile.FieldType.object "java/util/OptionalInt"))).before a0 Z = true := hw _ (List.mem_of_getElem? (i := 71) rfl)
theorem wd72 {Z : State} {a0 : Array Value} (hw : ∀ d ∈ tables_1, d.before a0 Z = true) : (Jvm.Cond.fieldLink "java/util/OptionalInt" (17 : Nat) "java/util/OptionalInt" "EMPTY" "Ljava/util/OptionalInt;").before a0 Z = true := hw _ (List.mem_of_getElem? (i := 72) rfl)
theorem wd73 {Z : State} {a0 : Array Value} (hw : ∀ d ∈ tables_1, d.before a0 Z = true) : (Jvm.Cond.methodLink "com/example/notice_to_drain/noticetodrain/drain/HookOutcomeUnstartedPinLaw" (31 : Nat) ({ cls := "java/util/OptionalInt", name := "isPresent", desc := "()Z" } : Jvm.MethodName)).before a0 Z = true := hw _ (List.mem_of_getElem? (i := 73) rfl)
theorem wd74 {Z : State} {a0 : Array Value} (hw : ∀ d ∈ tables_1, d.before a0 Z = true) : (Jvm.Cond.declares ({ cls := "java/util/OptionalInt", name := "isPresent", desc := "()Z" } : Jvm.MethodName)).before a0 Z = true := hw _ (List.mem_of_getElem? (i := 74) rfl)
theorem wd75 {Z : State} {a0 : Array Value} (hw : ∀ d ∈ tables_1, d.before a0 Z = true) : (Jvm.Cond.instanceMethod ({ cls := "java/util/OptionalInt", name := "isPresent", desc := "()Z" } : Jvm.MethodName)).before a0 Z = true := hw _ (List.mem_of_getElem? (i := 75) rfl)
theorem wd76 {Z : State} {a0 : Array Value} (hw : ∀ d ∈ tables_1, d.before a0 Z = true) : (Jvm.Cond.selects "java/util/OptionalInt" ({ cls := "java/util/OptionalInt", name := "isPresent", desc := "()Z" } : Jvm.MethodName) ({ cls := "java/util/OptionalInt", name := "isPresent", desc := "()Z" } : Jvm.MethodName)).before a0 Z = true := hw _ (List.mem_of_getElem? (i := 76) rfl)
theorem wd77 {Z : State} {a0 : Array Value} (hw : ∀ d ∈ tables_1, d.before a0 Z = true) : (Jvm.Cond.code ({ cls := "java/util/OptionalInt", name := "isPresent", desc := "()Z" } : Jvm.MethodName) jdk_2649_method_6_code (1 : Nat) (Option.some Jvm.ClassFile.FieldType.boolean)).before a0 Z = true := hw _ (List.mem_of_getElem? (i := 77) rfl)
theorem wd78 {Z : State} {a0 : Array Value} (hw : ∀ d ∈ tables_1, d.before a0 Z = true) : (Jvm.Cond.fieldLink "java/util/OptionalInt" (7 : Nat) "java/util/OptionalInt" "isPresent" "Z").before a0 Z = true := hw _ (List.mem_of_getElem? (i := 78) rfl)
theorem wd80 {Z : State} {a0 : Array Value} (hw : ∀ d ∈ tables_1, d.before a0 Z = true) : (Jvm.Cond.methodLink "com/example/notice_to_drain/noticetodrain/drain/HookOutcomeUnstartedPinLaw" (37 : Nat) ({ cls := "com/example/notice_to_drain/noticetodrain/drain/HookOutcome", name := "ok", desc := "()Z" } : Jvm.MethodName)).before a0 Z = true := hw _ (List.mem_of_getElem? (i := 80) rfl)
theorem wd81 {Z : State} {a0 : Array Value} (hw : ∀ d ∈ tables_1, d.before a0 Z = true) : (Jvm.Cond.declares ({ cls := "com/example/notice_to_drain/noticetodrain/drain/HookOutcome", name := "ok", desc := "()Z" } : Jvm.MethodName)).before a0 Z = true := hw _ (List.mem_of_getElem? (i := 81) rfl)
theorem wd82 {Z : State} {a0 : Array Value} (hw : ∀ d ∈ tables_1, d.before a0 Z = true) : (Jvm.Cond.instanceMethod ({ cls := "com/example/notice_to_drain/noticetodrain/drain/HookOutcome", name := "ok", desc := "()Z" } : Jvm.MethodName)).before a0 Z = true := hw _ (List.mem_of_getElem? (i := 82) rfl)
theorem wd83 {Z : State} {a0 : Array Value} (hw : ∀ d ∈ tables_1, d.before a0 Z = true) : (Jvm.Cond.selects "com/example/notice_to_drain/noticetodrain/drain/HookOutcome" ({ cls := "com/example/notice_to_drain/noticetodrain/drain/HookOutcome", name := "ok", desc := "()Z" } : Jvm.MethodName) ({ cls := "com/example/notice_to_drain/noticetodrain/drain/HookOutcome", name := "ok", desc := "()Z" } : Jvm.MethodName)).before a0 Z = true := hw _ (List.mem_of_getElem? (i := 83) rfl)
theorem wd84 {Z : State} {a0 : Array Value} (hw : ∀ d ∈ tables_1, d.before a0 Z = true) : (Jvm.Cond.code ({ cls := "com/example/notice_to_drain/noticetodrain/drain/HookOutcome", name := "ok", desc := "()Z" } : Jvm.MethodName) prog_5_method_8_code (1 : Nat) (Option.some Jvm.ClassFile.FieldType.boolean)).before a0 Z = true := hw _ (List.mem_of_getElem? (i := 84) rfl)
theorem wd85 {Z : State} {a0 : Array Value} (hw : ∀ d ∈ tables_1, d.before a0 Z = true) : (Jvm.Cond.methodLink "com/example/notice_to_drain/noticetodrain/drain/HookOutcomeUnstartedPinLaw" (40 : Nat) ({ cls := "com/example/notice_to_drain/noticetodrain/drain/HookOutcome", name := "timedOut", desc := "()Z" } : Jvm.MethodName)).before a0 Z = true := hw _ (List.mem_of_getElem? (i := 85) rfl)
theorem wd86 {Z : State} {a0 : Array Value} (hw : ∀ d ∈ tables_1, d.before a0 Z = true) : (Jvm.Cond.declares ({ cls := "com/example/notice_to_drain/noticetodrain/drain/HookOutcome", name := "timedOut", desc := "()Z" } : Jvm.MethodName)).before a0 Z = true := hw _ (List.mem_of_getElem? (i := 86) rfl)
theorem wd87 {Z : State} {a0 : Array Value} (hw : ∀ d ∈ tables_1, d.before a0 Z = true) : (Jvm.Cond.instanceMethod ({ cls := "com/example/notice_to_drain/noticetodrain/drain/HookOutcome", name := "timedOut", desc := "()Z" } : Jvm.MethodName)).before a0 Z = true := hw _ (List.mem_of_getElem? (i := 87) rfl)
theorem wd88 {Z : State} {a0 : Array Value} (hw : ∀ d ∈ tables_1, d.before a0 Z = true) : (Jvm.Cond.selects "com/example/notice_to_drain/noticetodrain/drain/HookOutcome" ({ cls := "com/example/notice_to_drain/noticetodrain/drain/HookOutcome", name := "timedOut", desc := "()Z" } : Jvm.MethodName) ({ cls := "com/example/notice_to_drain/noticetodrain/drain/HookOutcome", name := "timedOut", desc := "()Z" } : Jvm.MethodName)).before a0 Z = true := hw _ (List.mem_of_getElem? (i := 88) rfl)
theorem wd89 {Z : State} {a0 : Array Value} (hw : ∀ d ∈ tables_1, d.before a0 Z = true) : (Jvm.Cond.code ({ cls := "com/example/notice_to_drain/noticetodrain/drain/HookOutcome", name := "timedOut", desc := "()Z" } : Jvm.MethodName) prog_5_method_9_code (1 : Nat) (Option.some Jvm.ClassFile.FieldType.boolean)).before a0 Z = true := hw _ (List.mem_of_getElem? (i := 89) rfl)
theorem wd90 {Z : State} {a0 : Array Value} (hw : ∀ d ∈ tables_1, d.before a0 Z = true) : (Jvm.Cond.fieldLink "com/example/notice_to_drain/noticetodrain/drain/HookOutcome" (38 : Nat) "com/example/notice_to_drain/noticetodrain/drain/HookOutcome$Ending" "TIMED_OUT" "Lcom/example/notice_to_drain/noticetodrain/drain/HookOutcome$Ending;").before a0 Z = true := hw _ (List.mem_of_getElem? (i := 90) rfl)
theorem wd91 {Z : State} {a0 : Array Value} (hw : ∀ d ∈ tables_1, d.before a0 Z = true) : (Jvm.Cond.laysStatic "com/example/notice_to_drain/noticetodrain/drain/HookOutcome$Ending" "TIMED_OUT" "Lcom/example/notice_to_drain/noticetodrain/drain/HookOutcome$Ending;").before a0 Z = true := hw _ (List.mem_of_getElem? (i := 91) rfl)
theorem wd92 {Z : State} {a0 : Array Value} (hw : ∀ d ∈ tables_1, d.before a0 Z = true) : (Jvm.Cond.methodLink "com/example/notice_to_drain/noticetodrain/drain/HookOutcomeUnstartedPinLaw" (43 : Nat) ({ cls := "com/example/notice_to_drain/noticetodrain/drain/HookOutcome", name := "exitUnknown", desc := "()Z" } : Jvm.MethodName)).before a0 Z = true := hw _ (List.mem_of_getElem? (i := 92) rfl)
theorem wd93 {Z : State} {a0 : Array Value} (hw : ∀ d ∈ tables_1, d.before a0 Z = true) : (Jvm.Cond.declares ({ cls := "com/example/notice_to_drain/noticetodrain/drain/HookOutcome", name := "exitUnknown", desc := "()Z" } : Jvm.MethodName)).before a0 Z = true := hw _ (List.mem_of_getElem? (i := 93) rfl)
theorem wd94 {Z : State} {a0 : Array Value} (hw : ∀ d ∈ tables_1, d.before a0 Z = true) : (Jvm.Cond.instanceMethod ({ cls := "com/example/notice_to_drain/noticetodrain/drain/HookOutcome", name := "exitUnknown", desc := "()Z" } : Jvm.MethodName)).before a0 Z = true := hw _ (List.mem_of_getElem? (i := 94) rfl)
theorem wd95 {Z : State} {a0 : Array Value} (hw : ∀ d ∈ tables_1, d.before a0 Z = true) : (Jvm.Cond.selects "com/example/notice_to_drain/noticetodrain/drain/HookOutcome" ({ cls := "com/example/notice_to_drain/noticetodrain/drain/HookOutcome", name := "exitUnknown", desc := "()Z" } : Jvm.MethodName) ({ cls := "com/example/notice_to_drain/noticetodrain/drain/HookOutcome", name := "exitUnknown", desc := "()Z" } : Jvm.MethodName)).before a0 Z = true := hw _ (List.mem_of_getElem? (i := 95) rfl)
theorem wd96 {Z : State} {a0 : Array Value} (hw : ∀ d ∈ tables_1, d.before a0 Z = true) : (Jvm.Cond.code ({ cls := "com/example/notice_to_drain/noticetodrain/drain/HookOutcome", name := "exitUnknown", desc := "()Z" } : Jvm.MethodName) prog_5_method_10_code (1 : Nat) (Option.some Jvm.ClassFile.FieldType.boolean)).before a0 Z = true := hw _ (List.mem_of_getElem? (i := 96) rfl)
theorem wd97 {Z : State} {a0 : Array Value} (hw : ∀ d ∈ tables_1, d.before a0 Z = true) : (Jvm.Cond.fieldLink "com/example/notice_to_drain/noticetodrain/drain/HookOutcome" (41 : Nat) "com/example/notice_to_drain/noticetodrain/drain/HookOutcome$Ending" "UNKNOWN" "Lcom/example/notice_to_drain/noticetodrain/drain/HookOutcome$Ending;").before a0 Z = true := hw _ (List.mem_of_getElem? (i := 97) rfl)
theorem wd98 {Z : State} {a0 : Array Value} (hw : ∀ d ∈ tables_1, d.before a0 Z = true) : (Jvm.Cond.laysStatic "com/example/notice_to_drain/noticetodrain/drain/HookOutcome$Ending" "UNKNOWN" "Lcom/example/notice_to_drain/noticetodrain/drain/HookOutcome$Ending;").before a0 Z = true := hw _ (List.mem_of_getElem? (i := 98) rfl)
theorem wd99 {Z : State} {a0 : Array Value} (hw : ∀ d ∈ tables_1, d.before a0 Z = true) : (Jvm.Cond.methodLink "com/example/notice_to_drain/noticetodrain/drain/HookOutcomeUnstartedPinLaw" (46 : Nat) ({ cls := "com/example/notice_to_drain/noticetodrain/drain/HookOutcome", name := "toString", desc := "()Ljava/lang/String;" } : Jvm.MethodName)).before a0 Z = true := hw _ (List.mem_of_getElem? (i := 99) rfl)
theorem wd100 {Z : State} {a0 : Array Value} (hw : ∀ d ∈ tables_1, d.before a0 Z = true) : (Jvm.Cond.declares ({ cls := "com/example/notice_to_drain/noticetodrain/drain/HookOutcome", name := "toString", desc := "()Ljava/lang/String;" } : Jvm.MethodName)).before a0 Z = true := hw _ (List.mem_of_getElem? (i := 100) rfl)
theorem wd101 {Z : State} {a0 : Array Value} (hw : ∀ d ∈ tables_1, d.before a0 Z = true) : (Jvm.Cond.instanceMethod ({ cls := "com/example/notice_to_drain/noticetodrain/drain/HookOutcome", name := "toString", desc := "()Ljava/lang/String;" } : Jvm.MethodName)).before a0 Z = true := hw _ (List.mem_of_getElem? (i := 101) rfl)
theorem wd102 {Z : State} {a0 : Array Value} (hw : ∀ d ∈ tables_1, d.before a0 Z = true) : (Jvm.Cond.selects "com/example/notice_to_drain/noticetodrain/drain/HookOutcome" ({ cls := "com/example/notice_to_drain/noticetodrain/drain/HookOutcome", name := "toString", desc := "()Ljava/lang/String;" } : Jvm.MethodName) ({ cls := "com/example/notice_to_drain/noticetodrain/drain/HookOutcome", name := "toString", desc := "()Ljava/lang/String;" } : Jvm.MethodName)).before a0 Z = true := hw _ (List.mem_of_getElem? (i := 102) rfl)
theorem wd103 {Z : State} {a0 : Array Value} (hw : ∀ d ∈ tables_1, d.before a0 Z = true) : (Jvm.Cond.code ({ cls := "com/example/notice_to_drain/noticetodrain/drain/HookOutcome", name := "toString", desc := "()Ljava/lang/String;" } : Jvm.MethodName) prog_5_method_11_code (2 : Nat) (Option.some (Jvm.ClassFile.FieldType.object "java/lang/String"))).before a0 Z = true := hw _ (List.mem_of_getElem? (i := 103) rfl)
theorem wd104 {Z : State} {a0 : Array Value} (hw : ∀ d ∈ tables_1, d.before a0 Z = true) : (Jvm.Cond.methodLink "com/example/notice_to_drain/noticetodrain/drain/HookOutcome" (58 : Nat) ({ cls := "com/example/notice_to_drain/noticetodrain/drain/HookOutcome$Ending", name := "ordinal", desc := "()I" } : Jvm.MethodName)).before a0 Z = true := hw _ (List.mem_of_getElem? (i := 104) rfl)
theorem wd105 {Z : State} {a0 : Array Value} (hw : ∀ d ∈ tables_1, d.before a0 Z = true) : (Jvm.Cond.sameMethod "com/example/notice_to_drain/noticetodrain/drain/HookOutcome$Ending" "java/lang/Enum" "ordinal" "()I").before a0 Z = true := hw _ (List.mem_of_getElem? (i := 105) rfl)
theorem wd106 {Z : State} {a0 : Array Value} (hw : ∀ d ∈ tables_1, d.before a0 Z = true) : (Jvm.Cond.declares ({ cls := "java/lang/Enum", name := "ordinal", desc := "()I" } : Jvm.MethodName)).before a0 Z = true := hw _ (List.mem_of_getElem? (i := 106) rfl)
theorem wd107 {Z : State} {a0 : Array Value} (hw : ∀ d ∈ tables_1, d.before a0 Z = true) : (Jvm.Cond.instanceMethod ({ cls := "java/lang/Enum", name := "ordinal", desc := "()I" } : Jvm.MethodName)).before a0 Z = true := hw _ (List.mem_of_getElem? (i := 107) rfl)
theorem wd108 {Z : State} {a0 : Array Value} (hw : ∀ d ∈ tables_1, d.before a0 Z = true) : (Jvm.Cond.selects "com/example/notice_to_drain/noticetodrain/drain/HookOutcome$Ending" ({ cls := "com/example/notice_to_drain/noticetodrain/drain/HookOutcome$Ending", name := "ordinal", desc := "()I" } : Jvm.MethodName) ({ cls := "java/lang/Enum", name := "ordinal", desc := "()I" } : Jvm.MethodName)).before a0 Z = true := hw _ (List.mem_of_getElem? (i := 108) rfl)
theorem wd109 {Z : State} {a0 : Array Value} (hw : ∀ d ∈ tables_1, d.before a0 Z = true) : (Jvm.Cond.initialized "java/lang/Enum").before a0 Z = true := hw _ (List.mem_of_getElem? (i := 109) rfl)
theorem wd110 {Z : State} {a0 : Array Value} (hw : ∀ d ∈ tables_1, d.before a0 Z = true) : (Jvm.Cond.code ({ cls := "java/lang/Enum", name := "ordinal", desc := "()I" } : Jvm.MethodName) jdk_37_method_2_code (1 : Nat) (Option.some Jvm.ClassFile.FieldType.int)).before a0 Z = true := hw _ (List.mem_of_getElem? (i := 110) rfl)
theorem wd111 {Z : State} {a0 : Array Value} (hw : ∀ d ∈ tables_1, d.before a0 Z = true) : (Jvm.Cond.fieldLink "java/lang/Enum" (7 : Nat) "java/lang/Enum" "ordinal" "I").before a0 Z = true := hw _ (List.mem_of_getElem? (i := 111) rfl)
theorem wd113 {Z : State} {a0 : Array Value} (hw : ∀ d ∈ tables_1, d.before a0 Z = true) : (Jvm.Cond.stringLink "com/example/notice_to_drain/noticetodrain/drain/HookOutcome" (63 : Nat) "failed to start").before a0 Z = true := hw _ (List.mem_of_getElem? (i := 113) rfl)
theorem wd114 {Z : State} {a0 : Array Value} (hw : ∀ d ∈ tables_1, d.before a0 Z = true) : (Jvm.Cond.classLink "com/example/notice_to_drain/noticetodrain/drain/HookOutcome" (69 : Nat) "java/lang/StringBuilder").before a0 Z = true := hw _ (List.mem_of_getElem? (i := 114) rfl)
theorem wd115 {Z : State} {a0 : Array Value} (hw : ∀ d ∈ tables_1, d.before a0 Z = true) : (Jvm.Cond.instantiable "java/lang/StringBuilder" (4 : Nat)).before a0 Z = true := hw _ (List.mem_of_getElem? (i := 115) rfl)
theorem wd116 {Z : State} {a0 : Array Value} (hw : ∀ d ∈ tables_1, d.before a0 Z = true) : (Jvm.Cond.initialized "java/lang/StringBuilder").before a0 Z = true := hw _ (List.mem_of_getElem? (i := 116) rfl)
theorem wd117 {Z : State} {a0 : Array Value} (hw : ∀ d ∈ tables_1, d.before a0 Z = true) : (Jvm.Cond.methodLink "com/example/notice_to_drain/noticetodrain/drain/HookOutcome" (71 : Nat) ({ cls := "java/lang/StringBuilder", name := "<init>", desc := "()V" } : Jvm.MethodName)).before a0 Z = true := hw _ (List.mem_of_getElem? (i := 117) rfl)
theorem wd118 {Z : State} {a0 : Array Value} (hw : ∀ d ∈ tables_1, d.before a0 Z = true) : (Jvm.Cond.instanceMethod ({ cls := "java/lang/StringBuilder", name := "<init>", desc := "()V" } : Jvm.MethodName)).before a0 Z = true := hw _ (List.mem_of_getElem? (i := 118) rfl)
theorem wd119 {Z : State} {a0 : Array Value} (hw : ∀ d ∈ tables_1, d.before a0 Z = true) : (Jvm.Cond.code ({ cls := "java/lang/StringBuilder", name := "<init>", desc := "()V" } : Jvm.MethodName) jdk_67_method_1_code (1 : Nat) (Option.none : Option Jvm.ClassFile.FieldType)).before a0 Z = true := hw _ (List.mem_of_getElem? (i := 119) rfl)
theorem wd120 {Z : State} {a0 : Array Value} (hw : ∀ d ∈ tables_1, d.before a0 Z = true) : (Jvm.Cond.methodLink "java/lang/StringBuilder" (1 : Nat) ({ cls := "java/lang/AbstractStringBuilder", name := "<init>", desc := "(I)V" } : Jvm.MethodName)).before a0 Z = true := hw _ (List.mem_of_getElem? (i := 120) rfl)
theorem wd121 {Z : State} {a0 : Array Value} (hw : ∀ d ∈ tables_1, d.before a0 Z = true) : (Jvm.Cond.instanceMethod ({ cls := "java/lang/AbstractStringBuilder", name := "<init>", desc := "(I)V" } : Jvm.MethodName)).before a0 Z = true := hw _ (List.mem_of_getElem? (i := 121) rfl)
theorem wd124 {Z : State} {a0 : Array Value} (hw : ∀ d ∈ tables_1, d.before a0 Z = true) : (Jvm.Cond.initialized "java/lang/AbstractStringBuilder").before a0 Z = true := hw _ (List.mem_of_getElem? (i := 124) rfl)
theorem wd125 {Z : State} {a0 : Array Value} (hw : ∀ d ∈ tables_1, d.before a0 Z = true) : (Jvm.Cond.code ({ cls := "java/lang/AbstractStringBuilder", name := "<init>", desc := "(I)V" } : Jvm.MethodName) jdk_68_method_2_code (2 : Nat) (Option.none : Option Jvm.ClassFile.FieldType)).before a0 Z = true := hw _ (List.mem_of_getElem? (i := 125) rfl)
theorem wd126 {Z : State} {a0 : Array Value} (hw : ∀ d ∈ tables_1, d.before a0 Z = true) : (Jvm.Cond.methodLink "java/lang/AbstractStringBuilder" (3 : Nat) ({ cls := "java/lang/Object", name := "<init>", desc := "()V" } : Jvm.MethodName)).before a0 Z = true := hw _ (List.mem_of_getElem? (i := 126) rfl)
theorem wd127 {Z : State} {a0 : Array Value} (hw : ∀ d ∈ tables_1, d.before a0 Z = true) : (Jvm.Cond.fieldLink "java/lang/AbstractStringBuilder" (18 : Nat) "java/lang/String" "COMPACT_STRINGS" "Z").before a0 Z = true := hw _ (List.mem_of_getElem? (i := 127) rfl)
theorem wd128 {Z : State} {a0 : Array Value} (hw : ∀ d ∈ tables_1, d.before a0 Z = true) : (Jvm.Cond.fieldLink "java/lang/AbstractStringBuilder" (15 : Nat) "java/lang/AbstractStringBuilder" "value" "[B").before a0 Z = true := hw _ (List.mem_of_getElem? (i := 128) rfl)
theorem wd129 {Z : State} {a0 : Array Value} (hw : ∀ d ∈ tables_1, d.before a0 Z = true) : (Jvm.Cond.lays "java/lang/StringBuilder" "java/lang/AbstractStringBuilder" "value" "[B").before a0 Z = true := hw _ (List.mem_of_getElem? (i := 129) rfl)
theorem wd130 {Z : State} {a0 : Array Value} (hw : ∀ d ∈ tables_1, d.before a0 Z = true) : (Jvm.Cond.fieldLink "java/lang/AbstractStringBuilder" (22 : Nat) "java/lang/AbstractStringBuilder" "coder" "B").before a0 Z = true := hw _ (List.mem_of_getElem? (i := 130) rfl)
theorem wd131 {Z : State} {a0 : Array Value} (hw : ∀ d ∈ tables_1, d.before a0 Z = true) : (Jvm.Cond.lays "java/lang/StringBuilder" "java/lang/AbstractStringBuilder" "coder" "B").before a0 Z = true := hw _ (List.mem_of_getElem? (i := 131) rfl)
theorem wd132 {Z : State} {a0 : Array Value} (hw : ∀ d ∈ tables_1, d.before a0 Z = true) : (Jvm.Cond.methodLink "com/example/notice_to_drain/noticetodrain/drain/HookOutcome" (74 : Nat) ({ cls := "java/lang/StringBuilder", name := "append", desc := "(Ljava/lang/String;)Ljava/lang/StringBuilder;" } : Jvm.MethodName)).before a0 Z = true := hw _ (List.mem_of_getElem? (i := 132) rfl)
theorem wd133 {Z : State} {a0 : Array Value} (hw : ∀ d ∈ tables_1, d.before a0 Z = true) : (Jvm.Cond.declares ({ cls := "java/lang/StringBuilder", name := "append", desc := "(Ljava/lang/String;)Ljava/lang/StringBuilder;" } : Jvm.MethodName)).before a0 Z = true := hw _ (List.mem_of_getElem? (i := 133) rfl)
theorem wd134 {Z : State} {a0 : Array Value} (hw : ∀ d ∈ tables_1, d.before a0 Z = true) : (Jvm.Cond.instanceMethod ({ cls := "java/lang/StringBuilder", name := "append", desc := "(Ljava/lang/String;)Ljava/lang/StringBuilder;" } : Jvm.MethodName)).before a0 Z = true := hw _ (List.mem_of_getElem? (i := 134) rfl)
theorem wd135 {Z : State} {a0 : Array Value} (hw : ∀ d ∈ tables_1, d.before a0 Z = true) : (Jvm.Cond.selects "java/lang/StringBuilder" ({ cls := "java/lang/StringBuilder", name := "append", desc := "(Ljava/lang/String;)Ljava/lang/StringBuilder;" } : Jvm.MethodName) ({ cls := "java/lang/StringBuilder", name := "append", desc := "(Ljava/lang/String;)Ljava/lang/StringBuilder;" } : Jvm.MethodName)).before a0 Z = true := hw _ (List.mem_of_getElem? (i := 135) rfl)
theorem wd136 {Z : State} {a0 : Array Value} (hw : ∀ d ∈ tables_1, d.before a0 Z = true) : (Jvm.Cond.code ({ cls := "java/lang/StringBuilder", name := "append", desc := "(Ljava/lang/String;)Ljava/lang/StringBuilder;" } : Jvm.MethodName) jdk_67_method_7_code (2 : Nat) (Option.some (Jvm.ClassFile.FieldType.object "java/lang/StringBuilder"))).before a0 Z = true := hw _ (List.mem_of_getElem? (i := 136) rfl)
theorem wd137 {Z : State} {a0 : Array Value} (hw : ∀ d ∈ tables_1, d.before a0 Z = true) : (Jvm.Cond.methodLink "java/lang/StringBuilder" (29 : Nat) ({ cls := "java/lang/AbstractStringBuilder", name := "append", desc := "(Ljava/lang/String;)Ljava/lang/AbstractStringBuilder;" } : Jvm.MethodName)).before a0 Z = true := hw _ (List.mem_of_getElem? (i := 137) rfl)
theorem wd138 {Z : State} {a0 : Array Value} (hw : ∀ d ∈ tables_1, d.before a0 Z = true) : (Jvm.Cond.instanceMethod ({ cls := "java/lang/AbstractStringBuilder", name := "append", desc := "(Ljava/lang/String;)Ljava/lang/AbstractStringBuilder;" } : Jvm.MethodName)).before a0 Z = true := hw _ (List.mem_of_getElem? (i := 138) rfl)
theorem wd139 {Z : State} {a0 : Array Value} (hw : ∀ d ∈ tables_1, d.before a0 Z = true) : (Jvm.Cond.superclass "java/lang/StringBuilder" "java/lang/AbstractStringBuilder").before a0 Z = true := hw _ (List.mem_of_getElem? (i := 139) rfl)
theorem wd141 {Z : State} {a0 : Array Value} (hw : ∀ d ∈ tables_1, d.before a0 Z = true) : (Jvm.Cond.code ({ cls := "java/lang/AbstractStringBuilder", name := "append", desc := "(Ljava/lang/String;)Ljava/lang/AbstractStringBuilder;" } : Jvm.MethodName) jdk_68_method_22_code (3 : Nat) (Option.some (Jvm.ClassFile.FieldType.object "java/lang/AbstractStringBuilder"))).before a0 Z = true := hw _ (List.mem_of_getElem? (i := 141) rfl)
theorem wd142 {Z : State} {a0 : Array Value} (hw : ∀ d ∈ tables_1, d.before a0 Z = true) : (Jvm.Cond.methodLink "java/lang/AbstractStringBuilder" (32 : Nat) ({ cls := "java/lang/String", name := "length", desc := "()I" } : Jvm.MethodName)).before a0 Z = true := hw _ (List.mem_of_getElem? (i := 142) rfl)
theorem wd143 {Z : State} {a0 : Array Value} (hw : ∀ d ∈ tables_1, d.before a0 Z = true) : (Jvm.Cond.declares ({ cls := "java/lang/String", name := "length", desc := "()I" } : Jvm.MethodName)).before a0 Z = true := hw _ (List.mem_of_getElem? (i := 143) rfl)
theorem wd144 {Z : State} {a0 : Array Value} (hw : ∀ d ∈ tables_1, d.before a0 Z = true) : (Jvm.Cond.instanceMethod ({ cls := "java/lang/String", name := "length", desc := "()I" } : Jvm.MethodName)).before a0 Z = true := hw _ (List.mem_of_getElem? (i := 144) rfl)
theorem wd145 {Z : State} {a0 : Array Value} (hw : ∀ d ∈ tables_1, d.before a0 Z = true) : (Jvm.Cond.selects "java/lang/String" ({ cls := "java/lang/String", name := "length", desc := "()I" } : Jvm.MethodName) ({ cls := "java/lang/String", name := "length", desc := "()I" } : Jvm.MethodName)).before a0 Z = true := hw _ (List.mem_of_getElem? (i := 145) rfl)
theorem wd146 {Z : State} {a0 : Array Value} (hw : ∀ d ∈ tables_1, d.before a0 Z = true) : (Jvm.Cond.code ({ cls := "java/lang/String", name := "length", desc := "()I" } : Jvm.MethodName) jdk_42_method_54_code (1 : Nat) (Option.some Jvm.ClassFile.FieldType.int)).before a0 Z = true := hw _ (List.mem_of_getElem? (i := 146) rfl)
theorem wd147 {Z : State} {a0 : Array Value} (hw : ∀ d ∈ tables_1, d.before a0 Z = true) : (Jvm.Cond.methodLink "java/lang/String" (335 : Nat) ({ cls := "java/lang/String", name := "coder", desc := "()B" } : Jvm.MethodName)).before a0 Z = true := hw _ (List.mem_of_getElem? (i := 147) rfl)
theorem wd148 {Z : State} {a0 : Array Value} (hw : ∀ d ∈ tables_1, d.before a0 Z = true) : (Jvm.Cond.declares ({ cls := "java/lang/String", name := "coder", desc := "()B" } : Jvm.MethodName)).before a0 Z = true := hw _ (List.mem_of_getElem? (i := 148) rfl)
theorem wd149 {Z : State} {a0 : Array Value} (hw : ∀ d ∈ tables_1, d.before a0 Z = true) : (Jvm.Cond.instanceMethod ({ cls := "java/lang/String", name := "coder", desc := "()B" } : Jvm.MethodName)).before a0 Z = true := hw _ (List.mem_of_getElem? (i := 149) rfl)
theorem wd150 {Z : State} {a0 : Array Value} (hw : ∀ d ∈ tables_1, d.before a0 Z = true) : (Jvm.Cond.selects "java/lang/String" ({ cls := "java/lang/String", name := "coder", desc := "()B" } : Jvm.MethodName) ({ cls := "java/lang/String", name := "coder", desc := "()B" } : Jvm.MethodName)).before a0 Z = true := hw _ (List.mem_of_getElem? (i := 150) rfl)
theorem wd151 {Z : State} {a0 : Array Value} (hw : ∀ d ∈ tables_1, d.before a0 Z = true) : (Jvm.Cond.code ({ cls := "java/lang/String", name := "coder", desc := "()B" } : Jvm.MethodName) jdk_42_method_152_code (1 : Nat) (Option.some Jvm.ClassFile.FieldType.byte)).before a0 Z = true := hw _ (List.mem_of_getElem? (i := 151) rfl)
theorem wd152 {Z : State} {a0 : Array Value} (hw : ∀ d ∈ tables_1, d.before a0 Z = true) : (Jvm.Cond.fieldLink "java/lang/AbstractStringBuilder" (79 : Nat) "java/lang/AbstractStringBuilder" "count" "I").before a0 Z = true := hw _ (List.mem_of_getElem? (i := 152) rfl)
theorem wd153 {Z : State} {a0 : Array Value} (hw : ∀ d ∈ tables_1, d.before a0 Z = true) : (Jvm.Cond.lays "java/lang/StringBuilder" "java/lang/AbstractStringBuilder" "count" "I").before a0 Z = true := hw _ (List.mem_of_getElem? (i := 153) rfl)
theorem wd154 {Z : State} {a0 : Array Value} (hw : ∀ d ∈ tables_1, d.before a0 Z = true) : (Jvm.Cond.methodLink "java/lang/AbstractStringBuilder" (100 : Nat) ({ cls := "java/lang/AbstractStringBuilder", name := "ensureCapacityInternal", desc := "(I)V" } : Jvm.MethodName)).before a0 Z = true := hw _ (List.mem_of_getElem? (i := 154) rfl)
theorem wd155 {Z : State} {a0 : Array Value} (hw : ∀ d ∈ tables_1, d.before a0 Z = true) : (Jvm.Cond.instanceMethod ({ cls := "java/lang/AbstractStringBuilder", name := "ensureCapacityInternal", desc := "(I)V" } : Jvm.MethodName)).before a0 Z = true := hw _ (List.mem_of_getElem? (i := 155) rfl)
theorem wd156 {Z : State} {a0 : Array Value} (hw : ∀ d ∈ tables_1, d.before a0 Z = true) : (Jvm.Cond.privateMethod ({ cls := "java/lang/AbstractStringBuilder", name := "ensureCapacityInternal", desc := "(I)V" } : Jvm.MethodName)).before a0 Z = true := hw _ (List.mem_of_getElem? (i := 156) rfl)
theorem wd157 {Z : State} {a0 : Array Value} (hw : ∀ d ∈ tables_1, d.before a0 Z = true) : (Jvm.Cond.selects "java/lang/StringBuilder" ({ cls := "java/lang/AbstractStringBuilder", name := "ensureCapacityInternal", desc := "(I)V" } : Jvm.MethodName) ({ cls := "java/lang/AbstractStringBuilder", name := "ensureCapacityInternal", desc := "(I)V" } : Jvm.MethodName)).before a0 Z = true := hw _ (List.mem_of_getElem? (i := 157) rfl)
theorem wd158 {Z : State} {a0 : Array Value} (hw : ∀ d ∈ tables_1, d.before a0 Z = true) : (Jvm.Cond.code ({ cls := "java/lang/AbstractStringBuilder", name := "ensureCapacityInternal", desc := "(I)V" } : Jvm.MethodName) jdk_68_method_9_code (3 : Nat) (Option.none : Option Jvm.ClassFile.FieldType)).before a0 Z = true := hw _ (List.mem_of_getElem? (i := 158) rfl)
theorem wd159 {Z : State} {a0 : Array Value} (hw : ∀ d ∈ tables_1, d.before a0 Z = true) : (Jvm.Cond.methodLink "java/lang/AbstractStringBuilder" (208 : Nat) ({ cls := "java/lang/AbstractStringBuilder", name := "putStringAt", desc := "(ILjava/lang/String;)V" } : Jvm.MethodName)).before a0 Z = true := hw _ (List.mem_of_getElem? (i := 159) rfl)
theorem wd160 {Z : State} {a0 : Array Value} (hw : ∀ d ∈ tables_1, d.before a0 Z = true) : (Jvm.Cond.instanceMethod ({ cls := "java/lang/AbstractStringBuilder", name := "putStringAt", desc := "(ILjava/lang/String;)V" } : Jvm.MethodName)).before a0 Z = true := hw _ (List.mem_of_getElem? (i := 160) rfl)
theorem wd161 {Z : State} {a0 : Array Value} (hw : ∀ d ∈ tables_1, d.before a0 Z = true) : (Jvm.Cond.privateMethod ({ cls := "java/lang/AbstractStringBuilder", name := "putStringAt", desc := "(ILjava/lang/String;)V" } : Jvm.MethodName)).before a0 Z = true := hw _ (List.mem_of_getElem? (i := 161) rfl)
theorem wd162 {Z : State} {a0 : Array Value} (hw : ∀ d ∈ tables_1, d.before a0 Z = true) : (Jvm.Cond.selects "java/lang/StringBuilder" ({ cls := "java/lang/AbstractStringBuilder", name := "putStringAt", desc := "(ILjava/lang/String;)V" } : Jvm.MethodName) ({ cls := "java/lang/AbstractStringBuilder", name := "putStringAt", desc := "(ILjava/lang/String;)V" } : Jvm.MethodName)).before a0 Z = true := hw _ (List.mem_of_getElem? (i := 162) rfl)
theorem wd163 {Z : State} {a0 : Array Value} (hw : ∀ d ∈ tables_1, d.before a0 Z = true) : (Jvm.Cond.code ({ cls := "java/lang/AbstractStringBuilder", name := "putStringAt", desc := "(ILjava/lang/String;)V" } : Jvm.MethodName) jdk_68_method_73_code (3 : Nat) (Option.none : Option Jvm.ClassFile.FieldType)).before a0 Z = true := hw _ (List.mem_of_getElem? (i := 163) rfl)
theorem wd164 {Z : State} {a0 : Array Value} (hw : ∀ d ∈ tables_1, d.before a0 Z = true) : (Jvm.Cond.methodLink "java/lang/AbstractStringBuilder" (397 : Nat) ({ cls := "java/lang/AbstractStringBuilder", name := "inflateIfNeededFor", desc := "(Ljava/lang/String;)V" } : Jvm.MethodName)).before a0 Z = true := hw _ (List.mem_of_getElem? (i := 164) rfl)
theorem wd165 {Z : State} {a0 : Array Value} (hw : ∀ d ∈ tables_1, d.before a0 Z = true) : (Jvm.Cond.instanceMethod ({ cls := "java/lang/AbstractStringBuilder", name := "inflateIfNeededFor", desc := "(Ljava/lang/String;)V" } : Jvm.MethodName)).before a0 Z = true := hw _ (List.mem_of_getElem? (i := 165) rfl)
theorem wd166 {Z : State} {a0 : Array Value} (hw : ∀ d ∈ tables_1, d.before a0 Z = true) : (Jvm.Cond.privateMethod ({ cls := "java/lang/AbstractStringBuilder", name := "inflateIfNeededFor", desc := "(Ljava/lang/String;)V" } : Jvm.MethodName)).before a0 Z = true := hw _ (List.mem_of_getElem? (i := 166) rfl)
theorem wd167 {Z : State} {a0 : Array Value} (hw : ∀ d ∈ tables_1, d.before a0 Z = true) : (Jvm.Cond.selects "java/lang/StringBuilder" ({ cls := "java/lang/AbstractStringBuilder", name := "inflateIfNeededFor", desc := "(Ljava/lang/String;)V" } : Jvm.MethodName) ({ cls := "java/lang/AbstractStringBuilder", name := "inflateIfNeededFor", desc := "(Ljava/lang/String;)V" } : Jvm.MethodName)).before a0 Z = true := hw _ (List.mem_of_getElem? (i := 167) rfl)
theorem wd168 {Z : State} {a0 : Array Value} (hw : ∀ d ∈ tables_1, d.before a0 Z = true) : (Jvm.Cond.code ({ cls := "java/lang/AbstractStringBuilder", name := "inflateIfNeededFor", desc := "(Ljava/lang/String;)V" } : Jvm.MethodName) jdk_68_method_71_code (2 : Nat) (Option.none : Option Jvm.ClassFile.FieldType)).before a0 Z = true := hw _ (List.mem_of_getElem? (i := 168) rfl)
theorem wd169 {Z : State} {a0 : Array Value} (hw : ∀ d ∈ tables_1, d.before a0 Z = true) : (Jvm.Cond.methodLink "java/lang/AbstractStringBuilder" (40 : Nat) ({ cls := "java/lang/String", name := "coder", desc := "()B" } : Jvm.MethodName)).before a0 Z = true := hw _ (List.mem_of_getElem? (i := 169) rfl)
theorem wd170 {Z : State} {a0 : Array Value} (hw : ∀ d ∈ tables_1, d.before a0 Z = true) : (Jvm.Cond.methodLink "java/lang/AbstractStringBuilder" (399 : Nat) ({ cls := "java/lang/String", name := "getBytes", desc := "([BIB)V" } : Jvm.MethodName)).before a0 Z = true := hw _ (List.mem_of_getElem? (i := 170) rfl)
theorem wd171 {Z : State} {a0 : Array Value} (hw : ∀ d ∈ tables_1, d.before a0 Z = true) : (Jvm.Cond.declares ({ cls := "java/lang/String", name := "getBytes", desc := "([BIB)V" } : Jvm.MethodName)).before a0 Z = true := hw _ (List.mem_of_getElem? (i := 171) rfl)
theorem wd172 {Z : State} {a0 : Array Value} (hw : ∀ d ∈ tables_1, d.before a0 Z = true) : (Jvm.Cond.instanceMethod ({ cls := "java/lang/String", name := "getBytes", desc := "([BIB)V" } : Jvm.MethodName)).before a0 Z = true := hw _ (List.mem_of_getElem? (i := 172) rfl)
theorem wd173 {Z : State} {a0 : Array Value} (hw : ∀ d ∈ tables_1, d.before a0 Z = true) : (Jvm.Cond.selects "java/lang/String" ({ cls := "java/lang/String", name := "getBytes", desc := "([BIB)V" } : Jvm.MethodName) ({ cls := "java/lang/String", name := "getBytes", desc := "([BIB)V" } : Jvm.MethodName)).before a0 Z = true := hw _ (List.mem_of_getElem? (i := 173) rfl)
theorem wd174 {Z : State} {a0 : Array Value} (hw : ∀ d ∈ tables_1, d.before a0 Z = true) : (Jvm.Cond.code ({ cls := "java/lang/String", name := "getBytes", desc := "([BIB)V" } : Jvm.MethodName) jdk_42_method_147_code (4 : Nat) (Option.none : Option Jvm.ClassFile.FieldType)).before a0 Z = true := hw _ (List.mem_of_getElem? (i := 174) rfl)
theorem wd175 {Z : State} {a0 : Array Value} (hw : ∀ d ∈ tables_1, d.before a0 Z = true) : (Jvm.Cond.methodLink "java/lang/String" (212 : Nat) ({ cls := "java/lang/System", name := "arraycopy", desc := "(Ljava/lang/Object;ILjava/lang/Object;II)V" } : Jvm.MethodName)).before a0 Z = true := hw _ (List.mem_of_getElem? (i := 175) rfl)
theorem wd176 {Z : State} {a0 : Array Value} (hw : ∀ d ∈ tables_1, d.before a0 Z = true) : (Jvm.Cond.static ({ cls := "java/lang/System", name := "arraycopy", desc := "(Ljava/lang/Object;ILjava/lang/Object;II)V" } : Jvm.MethodName)).before a0 Z = true := hw _ (List.mem_of_getElem? (i := 176) rfl)
theorem wd177 {Z : State} {a0 : Array Value} (hw : ∀ d ∈ tables_1, d.before a0 Z = true) : (Jvm.Cond.initialized "java/lang/System").before a0 Z = true := hw _ (List.mem_of_getElem? (i := 177) rfl)
theorem wd178 {Z : State} {a0 : Array Value} (hw : ∀ d ∈ tables_1, d.before a0 Z = true) : (Jvm.Cond.native ({ cls := "java/lang/System", name := "arraycopy", desc := "(Ljava/lang/Object;ILjava/lang/Object;II)V" } : Jvm.MethodName)).before a0 Z = true := hw _ (List.mem_of_getElem? (i := 178) rfl)
theorem wd179 {Z : State} {a0 : Array Value} (hw : ∀ d ∈ tables_1, d.before a0 Z = true) : (Jvm.Cond.stringLink "com/example/notice_to_drain/noticetodrain/drain/HookOutcome" (85 : Nat) " ").before a0 Z = true := hw _ (List.mem_of_getElem? (i := 179) rfl)
theorem wd180 {Z : State} {a0 : Array Value} (hw : ∀ d ∈ tables_1, d.before a0 Z = true) : (Jvm.Cond.methodLink "com/example/notice_to_drain/noticetodrain/drain/HookOutcome" (81 : Nat) ({ cls := "java/lang/StringBuilder", name := "toString", desc := "()Ljava/lang/String;" } : Jvm.MethodName)).before a0 Z = true := hw _ (List.mem_of_getElem? (i := 180) rfl)
theorem wd181 {Z : State} {a0 : Array Value} (hw : ∀ d ∈ tables_1, d.before a0 Z = true) : (Jvm.Cond.declares ({ cls := "java/lang/StringBuilder", name := "toString", desc := "()Ljava/lang/String;" } : Jvm.MethodName)).before a0 Z = true := hw _ (List.mem_of_getElem? (i := 181) rfl)
theorem wd182 {Z : State} {a0 : Array Value} (hw : ∀ d ∈ tables_1, d.before a0 Z = true) : (Jvm.Cond.instanceMethod ({ cls := "java/lang/StringBuilder", name := "toString", desc := "()Ljava/lang/String;" } : Jvm.MethodName)).before a0 Z = true := hw _ (List.mem_of_getElem? (i := 182) rfl)
theorem wd183 {Z : State} {a0 : Array Value} (hw : ∀ d ∈ tables_1, d.before a0 Z = true) : (Jvm.Cond.selects "java/lang/StringBuilder" ({ cls := "java/lang/StringBuilder", name := "toString", desc := "()Ljava/lang/String;" } : Jvm.MethodName) ({ cls := "java/lang/StringBuilder", name := "toString", desc := "()Ljava/lang/String;" } : Jvm.MethodName)).before a0 Z = true := hw _ (List.mem_of_getElem? (i := 183) rfl)
theorem wd184 {Z : State} {a0 : Array Value} (hw : ∀ d ∈ tables_1, d.before a0 Z = true) : (Jvm.Cond.code ({ cls := "java/lang/StringBuilder", name := "toString", desc := "()Ljava/lang/String;" } : Jvm.MethodName) jdk_67_method_42_code (1 : Nat) (Option.some (Jvm.ClassFile.FieldType.object "java/lang/String"))).before a0 Z = true := hw _ (List.mem_of_getElem? (i := 184) rfl)
theorem wd185 {Z : State} {a0 : Array Value} (hw : ∀ d ∈ tables_1, d.before a0 Z = true) : (Jvm.Cond.classLink "java/lang/StringBuilder" (18 : Nat) "java/lang/String").before a0 Z = true := hw _ (List.mem_of_getElem? (i := 185) rfl)
theorem wd186 {Z : State} {a0 : Array Value} (hw : ∀ d ∈ tables_1, d.before a0 Z = true) : (Jvm.Cond.methodLink "java/lang/StringBuilder" (137 : Nat) ({ cls := "java/lang/String", name := "<init>", desc := "(Ljava/lang/StringBuilder;)V" } : Jvm.MethodName)).before a0 Z = true := hw _ (List.mem_of_getElem? (i := 186) rfl)
theorem wd187 {Z : State} {a0 : Array Value} (hw : ∀ d ∈ tables_1, d.before a0 Z = true) : (Jvm.Cond.instanceMethod ({ cls := "java/lang/String", name := "<init>", desc := "(Ljava/lang/StringBuilder;)V" } : Jvm.MethodName)).before a0 Z = true := hw _ (List.mem_of_getElem? (i := 187) rfl)
theorem wd188 {Z : State} {a0 : Array Value} (hw : ∀ d ∈ tables_1, d.before a0 Z = true) : (Jvm.Cond.code ({ cls := "java/lang/String", name := "<init>", desc := "(Ljava/lang/StringBuilder;)V" } : Jvm.MethodName) jdk_42_method_53_code (2 : Nat) (Option.none : Option Jvm.ClassFile.FieldType)).before a0 Z = true := hw _ (List.mem_of_getElem? (i := 188) rfl)
theorem wd189 {Z : State} {a0 : Array Value} (hw : ∀ d ∈ tables_1, d.before a0 Z = true) : (Jvm.Cond.methodLink "java/lang/String" (489 : Nat) ({ cls := "java/lang/String", name := "<init>", desc := "(Ljava/lang/AbstractStringBuilder;Ljava/lang/Void;)V" } : Jvm.MethodName)).before a0 Z = true := hw _ (List.mem_of_getElem? (i := 189) rfl)
theorem wd190 {Z : State} {a0 : Array Value} (hw : ∀ d ∈ tables_1, d.before a0 Z = true) : (Jvm.Cond.instanceMethod ({ cls := "java/lang/String", name := "<init>", desc := "(Ljava/lang/AbstractStringBuilder;Ljava/lang/Void;)V" } : Jvm.MethodName)).before a0 Z = true := hw _ (List.mem_of_getElem? (i := 190) rfl)
theorem wd191 {Z : State} {a0 : Array Value} (hw : ∀ d ∈ tables_1, d.before a0 Z = true) : (Jvm.Cond.code ({ cls := "java/lang/String", name := "<init>", desc := "(Ljava/lang/AbstractStringBuilder;Ljava/lang/Void;)V" } : Jvm.MethodName) jdk_42_method_150_code (5 : Nat) (Option.none : Option Jvm.ClassFile.FieldType)).before a0 Z = true := hw _ (List.mem_of_getElem? (i := 191) rfl)
theorem wd192 {Z : State} {a0 : Array Value} (hw : ∀ d ∈ tables_1, d.before a0 Z = true) : (Jvm.Cond.methodLink "java/lang/String" (552 : Nat) ({ cls := "java/lang/AbstractStringBuilder", name := "getValue", desc := "()[B" } : Jvm.MethodName)).before a0 Z = true := hw _ (List.mem_of_getElem? (i := 192) rfl)
theorem wd193 {Z : State} {a0 : Array Value} (hw : ∀ d ∈ tables_1, d.before a0 Z = true) : (Jvm.Cond.declares ({ cls := "java/lang/AbstractStringBuilder", name := "getValue", desc := "()[B" } : Jvm.MethodName)).before a0 Z = true := hw _ (List.mem_of_getElem? (i := 193) rfl)
theorem wd194 {Z : State} {a0 : Array Value} (hw : ∀ d ∈ tables_1, d.before a0 Z = true) : (Jvm.Cond.instanceMethod ({ cls := "java/lang/AbstractStringBuilder", name := "getValue", desc := "()[B" } : Jvm.MethodName)).before a0 Z = true := hw _ (List.mem_of_getElem? (i := 194) rfl)
theorem wd195 {Z : State} {a0 : Array Value} (hw : ∀ d ∈ tables_1, d.before a0 Z = true) : (Jvm.Cond.selects "java/lang/StringBuilder" ({ cls := "java/lang/AbstractStringBuilder", name := "getValue", desc := "()[B" } : Jvm.MethodName) ({ cls := "java/lang/AbstractStringBuilder", name := "getValue", desc := "()[B" } : Jvm.MethodName)).before a0 Z = true := hw _ (List.mem_of_getElem? (i := 195) rfl)
theorem wd196 {Z : State} {a0 : Array Value} (hw : ∀ d ∈ tables_1, d.before a0 Z = true) : (Jvm.Cond.code ({ cls := "java/lang/AbstractStringBuilder", name := "getValue", desc := "()[B" } : Jvm.MethodName) jdk_68_method_64_code (1 : Nat) (Option.some (Jvm.ClassFile.FieldType.array Jvm.ClassFile.FieldType.byte))).before a0 Z = true := hw _ (List.mem_of_getElem? (i := 196) rfl)
theorem wd197 {Z : State} {a0 : Array Value} (hw : ∀ d ∈ tables_1, d.before a0 Z = true) : (Jvm.Cond.methodLink "java/lang/String" (549 : Nat) ({ cls := "java/lang/AbstractStringBuilder", name := "length", desc := "()I" } : Jvm.MethodName)).before a0 Z = true := hw _ (List.mem_of_getElem? (i := 197) rfl)
theorem wd198 {Z : State} {a0 : Array Value} (hw : ∀ d ∈ tables_1, d.before a0 Z = true) : (Jvm.Cond.declares ({ cls := "java/lang/AbstractStringBuilder", name := "length", desc := "()I" } : Jvm.MethodName)).before a0 Z = true := hw _ (List.mem_of_getElem? (i := 198) rfl)
theorem wd199 {Z : State} {a0 : Array Value} (hw : ∀ d ∈ tables_1, d.before a0 Z = true) : (Jvm.Cond.instanceMethod ({ cls := "java/lang/AbstractStringBuilder", name := "length", desc := "()I" } : Jvm.MethodName)).before a0 Z = true := hw _ (List.mem_of_getElem? (i := 199) rfl)
theorem wd200 {Z : State} {a0 : Array Value} (hw : ∀ d ∈ tables_1, d.before a0 Z = true) : (Jvm.Cond.selects "java/lang/StringBuilder" ({ cls := "java/lang/AbstractStringBuilder", name := "length", desc := "()I" } : Jvm.MethodName) ({ cls := "java/lang/StringBuilder", name := "length", desc := "()I" } : Jvm.MethodName)).before a0 Z = true := hw _ (List.mem_of_getElem? (i := 200) rfl)
theorem wd201 {Z : State} {a0 : Array Value} (hw : ∀ d ∈ tables_1, d.before a0 Z = true) : (Jvm.Cond.instanceMethod ({ cls := "java/lang/StringBuilder", name := "length", desc := "()I" } : Jvm.MethodName)).before a0 Z = true := hw _ (List.mem_of_getElem? (i := 201) rfl)
theorem wd202 {Z : State} {a0 : Array Value} (hw : ∀ d ∈ tables_1, d.before a0 Z = true) : (Jvm.Cond.code ({ cls := "java/lang/StringBuilder", name := "length", desc := "()I" } : Jvm.MethodName) jdk_67_method_93_code (1 : Nat) (Option.some Jvm.ClassFile.FieldType.int)).before a0 Z = true := hw _ (List.mem_of_getElem? (i := 202) rfl)
theorem wd203 {Z : State} {a0 : Array Value} (hw : ∀ d ∈ tables_1, d.before a0 Z = true) : (Jvm.Cond.methodLink "java/lang/StringBuilder" (343 : Nat) ({ cls := "java/lang/AbstractStringBuilder", name := "length", desc := "()I" } : Jvm.MethodName)).before a0 Z = true := hw _ (List.mem_of_getElem? (i := 203) rfl)
theorem wd204 {Z : State} {a0 : Array Value} (hw : ∀ d ∈ tables_1, d.before a0 Z = true) : (Jvm.Cond.code ({ cls := "java/lang/AbstractStringBuilder", name := "length", desc := "()I" } : Jvm.MethodName) jdk_68_method_6_code (1 : Nat) (Option.some Jvm.ClassFile.FieldType.int)).before a0 Z = true := hw _ (List.mem_of_getElem? (i := 204) rfl)
theorem wd205 {Z : State} {a0 : Array Value} (hw : ∀ d ∈ tables_1, d.before a0 Z = true) : (Jvm.Cond.methodLink "java/lang/String" (1047 : Nat) ({ cls := "java/lang/AbstractStringBuilder", name := "isLatin1", desc := "()Z" } : Jvm.MethodName)).before a0 Z = true := hw _ (List.mem_of_getElem? (i := 205) rfl)
theorem wd206 {Z : State} {a0 : Array Value} (hw : ∀ d ∈ tables_1, d.before a0 Z = true) : (Jvm.Cond.declares ({ cls := "java/lang/AbstractStringBuilder", name := "isLatin1", desc := "()Z" } : Jvm.MethodName)).before a0 Z = true := hw _ (List.mem_of_getElem? (i := 206) rfl)
theorem wd207 {Z : State} {a0 : Array Value} (hw : ∀ d ∈ tables_1, d.before a0 Z = true) : (Jvm.Cond.instanceMethod ({ cls := "java/lang/AbstractStringBuilder", name := "isLatin1", desc := "()Z" } : Jvm.MethodName)).before a0 Z = true := hw _ (List.mem_of_getElem? (i := 207) rfl)
theorem wd208 {Z : State} {a0 : Array Value} (hw : ∀ d ∈ tables_1, d.before a0 Z = true) : (Jvm.Cond.selects "java/lang/StringBuilder" ({ cls := "java/lang/AbstractStringBuilder", name := "isLatin1", desc := "()Z" } : Jvm.MethodName) ({ cls := "java/lang/AbstractStringBuilder", name := "isLatin1", desc := "()Z" } : Jvm.MethodName)).before a0 Z = true := hw _ (List.mem_of_getElem? (i := 208) rfl)
theorem wd209 {Z : State} {a0 : Array Value} (hw : ∀ d ∈ tables_1, d.before a0 Z = true) : (Jvm.Cond.code ({ cls := "java/lang/AbstractStringBuilder", name := "isLatin1", desc := "()Z" } : Jvm.MethodName) jdk_68_method_68_code (1 : Nat) (Option.some Jvm.ClassFile.FieldType.boolean)).before a0 Z = true := hw _ (List.mem_of_getElem? (i := 209) rfl)
theorem wd210 {Z : State} {a0 : Array Value} (hw : ∀ d ∈ tables_1, d.before a0 Z = true) : (Jvm.Cond.methodLink "java/lang/String" (54 : Nat) ({ cls := "java/util/Arrays", name := "copyOfRange", desc := "([BII)[B" } : Jvm.MethodName)).before a0 Z = true := hw _ (List.mem_of_getElem? (i := 210) rfl)
theorem wd211 {Z : State} {a0 : Array Value} (hw : ∀ d ∈ tables_1, d.before a0 Z = true) : (Jvm.Cond.static ({ cls := "java/util/Arrays", name := "copyOfRange", desc := "([BII)[B" } : Jvm.MethodName)).before a0 Z = true := hw _ (List.mem_of_getElem? (i := 211) rfl)
theorem wd212 {Z : State} {a0 : Array Value} (hw : ∀ d ∈ tables_1, d.before a0 Z = true) : (Jvm.Cond.initialized "java/util/Arrays").before a0 Z = true := hw _ (List.mem_of_getElem? (i := 212) rfl)
theorem wd213 {Z : State} {a0 : Array Value} (hw : ∀ d ∈ tables_1, d.before a0 Z = true) : (Jvm.Cond.code ({ cls := "java/util/Arrays", name := "copyOfRange", desc := "([BII)[B" } : Jvm.MethodName) jdk_65_method_132_code (3 : Nat) (Option.some (Jvm.ClassFile.FieldType.array Jvm.ClassFile.FieldType.byte))).before a0 Z = true := hw _ (List.mem_of_getElem? (i := 213) rfl)
theorem wd214 {Z : State} {a0 : Array Value} (hw : ∀ d ∈ tables_1, d.before a0 Z = true) : (Jvm.Cond.methodLink "java/util/Arrays" (310 : Nat) ({ cls := "[B", name := "clone", desc := "()Ljava/lang/Object;" } : Jvm.MethodName)).before a0 Z = true := hw _ (List.mem_of_getElem? (i := 214) rfl)
theorem wd215 {Z : State} {a0 : Array Value} (hw : ∀ d ∈ tables_1, d.before a0 Z = true) : (Jvm.Cond.sameMethod "[B" "java/lang/Object" "clone" "()Ljava/lang/Object;").before a0 Z = true := hw _ (List.mem_of_getElem? (i := 215) rfl)
theorem wd217 {Z : State} {a0 : Array Value} (hw : ∀ d ∈ tables_1, d.before a0 Z = true) : (Jvm.Cond.instanceMethod ({ cls := "java/lang/Object", name := "clone", desc := "()Ljava/lang/Object;" } : Jvm.MethodName)).before a0 Z = true := hw _ (List.mem_of_getElem? (i := 217) rfl)
theorem wd218 {Z : State} {a0 : Array Value} (hw : ∀ d ∈ tables_1, d.before a0 Z = true) : (Jvm.Cond.selects "[B" ({ cls := "[B", name := "clone", desc := "()Ljava/lang/Object;" } : Jvm.MethodName) ({ cls := "java/lang/Object", name := "clone", desc := "()Ljava/lang/Object;" } : Jvm.MethodName)).before a0 Z = true := hw _ (List.mem_of_getElem? (i := 218) rfl)
theorem wd219 {Z : State} {a0 : Array Value} (hw : ∀ d ∈ tables_1, d.before a0 Z = true) : (Jvm.Cond.native ({ cls := "java/lang/Object", name := "clone", desc := "()Ljava/lang/Object;" } : Jvm.MethodName)).before a0 Z = true := hw _ (List.mem_of_getElem? (i := 219) rfl)
theorem wd220 {Z : State} {a0 : Array Value} (hw : ∀ d ∈ tables_1, d.before a0 Z = true) : (Jvm.Cond.castable "[B" "java/lang/Cloneable").before a0 Z = true := hw _ (List.mem_of_getElem? (i := 220) rfl)
theorem wd221 {Z : State} {a0 : Array Value} (hw : ∀ d ∈ tables_1, d.before a0 Z = true) : (Jvm.Cond.classLink "java/util/Arrays" (311 : Nat) "[B").before a0 Z = true := hw _ (List.mem_of_getElem? (i := 221) rfl)
theorem wd223 {Z : State} {a0 : Array Value} (hw : ∀ d ∈ tables_1, d.before a0 Z = true) : (Jvm.Cond.classLink "java/lang/String" (10 : Nat) "java/lang/String").before a0 Z = true := hw _ (List.mem_of_getElem? (i := 223) rfl)
theorem wd224 {Z : State} {a0 : Array Value} (hw : ∀ d ∈ tables_1, d.before a0 Z = true) : (Jvm.Cond.methodLink "java/lang/String" (541 : Nat) ({ cls := "java/lang/StringLatin1", name := "equals", desc := "([B[B)Z" } : Jvm.MethodName)).before a0 Z = true := hw _ (List.mem_of_getElem? (i := 224) rfl)
theorem wd225 {Z : State} {a0 : Array Value} (hw : ∀ d ∈ tables_1, d.before a0 Z = true) : (Jvm.Cond.static ({ cls := "java/lang/StringLatin1", name := "equals", desc := "([B[B)Z" } : Jvm.MethodName)).before a0 Z = true := hw _ (List.mem_of_getElem? (i := 225) rfl)
theorem wd226 {Z : State} {a0 : Array Value} (hw : ∀ d ∈ tables_1, d.before a0 Z = true) : (Jvm.Cond.initialized "java/lang/StringLatin1").before a0 Z = true := hw _ (List.mem_of_getElem? (i := 226) rfl)
theorem wd227 {Z : State} {a0 : Array Value} (hw : ∀ d ∈ tables_1, d.before a0 Z = true) : (Jvm.Cond.code ({ cls := "java/lang/StringLatin1", name := "equals", desc := "([B[B)Z" } : Jvm.MethodName) jdk_43_method_13_code (3 : Nat) (Option.some Jvm.ClassFile.FieldType.boolean)).before a0 Z = true := hw _ (List.mem_of_getElem? (i := 227) rfl)
theorem wd228 {Z : State} {a0 : Array Value} (hw : ∀ d ∈ tables_1, d.before a0 Z = true) : (Jvm.Cond.methodLink "java/lang/AbstractStringBuilder" (104 : Nat) ({ cls := "java/lang/AbstractStringBuilder", name := "newCapacity", desc := "(I)I" } : Jvm.MethodName)).before a0 Z = true := hw _ (List.mem_of_getElem? (i := 228) rfl)
theorem wd229 {Z : State} {a0 : Array Value} (hw : ∀ d ∈ tables_1, d.before a0 Z = true) : (Jvm.Cond.instanceMethod ({ cls := "java/lang/AbstractStringBuilder", name := "newCapacity", desc := "(I)I" } : Jvm.MethodName)).before a0 Z = true := hw _ (List.mem_of_getElem? (i := 229) rfl)
theorem wd230 {Z : State} {a0 : Array Value} (hw : ∀ d ∈ tables_1, d.before a0 Z = true) : (Jvm.Cond.privateMethod ({ cls := "java/lang/AbstractStringBuilder", name := "newCapacity", desc := "(I)I" } : Jvm.MethodName)).before a0 Z = true := hw _ (List.mem_of_getElem? (i := 230) rfl)
theorem wd231 {Z : State} {a0 : Array Value} (hw : ∀ d ∈ tables_1, d.before a0 Z = true) : (Jvm.Cond.selects "java/lang/StringBuilder" ({ cls := "java/lang/AbstractStringBuilder", name := "newCapacity", desc := "(I)I" } : Jvm.MethodName) ({ cls := "java/lang/AbstractStringBuilder", name := "newCapacity", desc := "(I)I" } : Jvm.MethodName)).before a0 Z = true := hw _ (List.mem_of_getElem? (i := 231) rfl)
theorem wd232 {Z : State} {a0 : Array Value} (hw : ∀ d ∈ tables_1, d.before a0 Z = true) : (Jvm.Cond.code ({ cls := "java/lang/AbstractStringBuilder", name := "newCapacity", desc := "(I)I" } : Jvm.MethodName) jdk_68_method_10_code (6 : Nat) (Option.some Jvm.ClassFile.FieldType.int)).before a0 Z = true := hw _ (List.mem_of_getElem? (i := 232) rfl)
theorem wd233 {Z : State} {a0 : Array Value} (hw : ∀ d ∈ tables_1, d.before a0 Z = true) : (Jvm.Cond.methodLink "java/lang/AbstractStringBuilder" (114 : Nat) ({ cls := "jdk/internal/util/ArraysSupport", name := "newLength", desc := "(III)I" } : Jvm.MethodName)).before a0 Z = true := hw _ (List.mem_of_getElem? (i := 233) rfl)
theorem wd234 {Z : State} {a0 : Array Value} (hw : ∀ d ∈ tables_1, d.before a0 Z = true) : (Jvm.Cond.static ({ cls := "jdk/internal/util/ArraysSupport", name := "newLength", desc := "(III)I" } : Jvm.MethodName)).before a0 Z = true := hw _ (List.mem_of_getElem? (i := 234) rfl)
theorem wd235 {Z : State} {a0 : Array Value} (hw : ∀ d ∈ tables_1, d.before a0 Z = true) : (Jvm.Cond.initialized "jdk/internal/util/ArraysSupport").before a0 Z = true := hw _ (List.mem_of_getElem? (i := 235) rfl)
theorem wd236 {Z : State} {a0 : Array Value} (hw : ∀ d ∈ tables_1, d.before a0 Z = true) : (Jvm.Cond.code ({ cls := "jdk/internal/util/ArraysSupport", name := "newLength", desc := "(III)I" } : Jvm.MethodName) jdk_48_method_27_code (4 : Nat) (Option.some Jvm.ClassFile.FieldType.int)).before a0 Z = true := hw _ (List.mem_of_getElem? (i := 236) rfl)
theorem wd237 {Z : State} {a0 : Array Value} (hw : ∀ d ∈ tables_1, d.before a0 Z = true) : (Jvm.Cond.methodLink "jdk/internal/util/ArraysSupport" (194 : Nat) ({ cls := "java/lang/Math", name := "max", desc := "(II)I" } : Jvm.MethodName)).before a0 Z = true := hw _ (List.mem_of_getElem? (i := 237) rfl)
theorem wd238 {Z : State} {a0 : Array Value} (hw : ∀ d ∈ tables_1, d.before a0 Z = true) : (Jvm.Cond.static ({ cls := "java/lang/Math", name := "max", desc := "(II)I" } : Jvm.MethodName)).before a0 Z = true := hw _ (List.mem_of_getElem? (i := 238) rfl)
theorem wd239 {Z : State} {a0 : Array Value} (hw : ∀ d ∈ tables_1, d.before a0 Z = true) : (Jvm.Cond.initialized "java/lang/Math").before a0 Z = true := hw _ (List.mem_of_getElem? (i := 239) rfl)
theorem wd240 {Z : State} {a0 : Array Value} (hw : ∀ d ∈ tables_1, d.before a0 Z = true) : (Jvm.Cond.code ({ cls := "java/lang/Math", name := "max", desc := "(II)I" } : Jvm.MethodName) jdk_29_method_65_code (2 : Nat) (Option.some Jvm.ClassFile.FieldType.int)).before a0 Z = true := hw _ (List.mem_of_getElem? (i := 240) rfl)
theorem wd241 {Z : State} {a0 : Array Value} (hw : ∀ d ∈ tables_1, d.before a0 Z = true) : (Jvm.Cond.constant "jdk/internal/util/ArraysSupport" (200 : Nat) (2147483639 : Int32)).before a0 Z = true := hw _ (List.mem_of_getElem? (i := 241) rfl)
theorem wd242 {Z : State} {a0 : Array Value} (hw : ∀ d ∈ tables_1, d.before a0 Z = true) : (Jvm.Cond.constant "java/lang/AbstractStringBuilder" (39 : Nat) (2147483647 : Int32)).before a0 Z = true := hw _ (List.mem_of_getElem? (i := 242) rfl)
theorem wd243 {Z : State} {a0 : Array Value} (hw : ∀ d ∈ tables_1, d.before a0 Z = true) : (Jvm.Cond.methodLink "java/lang/AbstractStringBuilder" (108 : Nat) ({ cls := "java/util/Arrays", name := "copyOf", desc := "([BI)[B" } : Jvm.MethodName)).before a0 Z = true := hw _ (List.mem_of_getElem? (i := 243) rfl)
theorem wd244 {Z : State} {a0 : Array Value} (hw : ∀ d ∈ tables_1, d.before a0 Z = true) : (Jvm.Cond.static ({ cls := "java/util/Arrays", name := "copyOf", desc := "([BI)[B" } : Jvm.MethodName)).before a0 Z = true := hw _ (List.mem_of_getElem? (i := 244) rfl)
theorem wd245 {Z : State} {a0 : Array Value} (hw : ∀ d ∈ tables_1, d.before a0 Z = true) : (Jvm.Cond.code ({ cls := "java/util/Arrays", name := "copyOf", desc := "([BI)[B" } : Jvm.MethodName) jdk_65_method_121_code (3 : Nat) (Option.some (Jvm.ClassFile.FieldType.array Jvm.ClassFile.FieldType.byte))).before a0 Z = true := hw _ (List.mem_of_getElem? (i := 245) rfl)
theorem wd246 {Z : State} {a0 : Array Value} (hw : ∀ d ∈ tables_1, d.before a0 Z = true) : (Jvm.Cond.methodLink "java/util/Arrays" (304 : Nat) ({ cls := "java/lang/Math", name := "min", desc := "(II)I" } : Jvm.MethodName)).before a0 Z = true := hw _ (List.mem_of_getElem? (i := 246) rfl)
theorem wd247 {Z : State} {a0 : Array Value} (hw : ∀ d ∈ tables_1, d.before a0 Z = true) : (Jvm.Cond.static ({ cls := "java/lang/Math", name := "min", desc := "(II)I" } : Jvm.MethodName)).before a0 Z = true := hw _ (List.mem_of_getElem? (i := 247) rfl)
theorem wd248 {Z : State} {a0 : Array Value} (hw : ∀ d ∈ tables_1, d.before a0 Z = true) : (Jvm.Cond.code ({ cls := "java/lang/Math", name := "min", desc := "(II)I" } : Jvm.MethodName) jdk_29_method_69_code (2 : Nat) (Option.some Jvm.ClassFile.FieldType.int)).before a0 Z = true := hw _ (List.mem_of_getElem? (i := 248) rfl)
theorem wd249 {Z : State} {a0 : Array Value} (hw : ∀ d ∈ tables_1, d.before a0 Z = true) : (Jvm.Cond.methodLink "java/util/Arrays" (150 : Nat) ({ cls := "java/lang/System", name := "arraycopy", desc := "(Ljava/lang/Object;ILjava/lang/Object;II)V" } : Jvm.MethodName)).before a0 Z = true := hw _ (List.mem_of_getElem? (i := 249) rfl)
theorem wd250 {Z : State} {a0 : Array Value} (hw : ∀ d ∈ tables_1, d.before a0 Z = true) : (Jvm.Cond.methodLink "java/util/Arrays" (339 : Nat) ({ cls := "java/util/Arrays", name := "copyOfRangeByte", desc := "([BII)[B" } : Jvm.MethodName)).before a0 Z = true := hw _ (List.mem_of_getElem? (i := 250) rfl)
theorem wd251 {Z : State} {a0 : Array Value} (hw : ∀ d ∈ tables_1, d.before a0 Z = true) : (Jvm.Cond.static ({ cls := "java/util/Arrays", name := "copyOfRangeByte", desc := "([BII)[B" } : Jvm.MethodName)).before a0 Z = true := hw _ (List.mem_of_getElem? (i := 251) rfl)
theorem wd252 {Z : State} {a0 : Array Value} (hw : ∀ d ∈ tables_1, d.before a0 Z = true) : (Jvm.Cond.code ({ cls := "java/util/Arrays", name := "copyOfRangeByte", desc := "([BII)[B" } : Jvm.MethodName) jdk_65_method_133_code (5 : Nat) (Option.some (Jvm.ClassFile.FieldType.array Jvm.ClassFile.FieldType.byte))).before a0 Z = true := hw _ (List.mem_of_getElem? (i := 252) rfl)
theorem wd253 {Z : State} {a0 : Array Value} (hw : ∀ d ∈ tables_1, d.before a0 Z = true) : (Jvm.Cond.methodLink "java/util/Arrays" (343 : Nat) ({ cls := "java/util/Arrays", name := "checkLength", desc := "(II)V" } : Jvm.MethodName)).before a0 Z = true := hw _ (List.mem_of_getElem? (i := 253) rfl)
theorem wd254 {Z : State} {a0 : Array Value} (hw : ∀ d ∈ tables_1, d.before a0 Z = true) : (Jvm.Cond.static ({ cls := "java/util/Arrays", name := "checkLength", desc := "(II)V" } : Jvm.MethodName)).before a0 Z = true := hw _ (List.mem_of_getElem? (i := 254) rfl)
theorem wd255 {Z : State} {a0 : Array Value} (hw : ∀ d ∈ tables_1, d.before a0 Z = true) : (Jvm.Cond.code ({ cls := "java/util/Arrays", name := "checkLength", desc := "(II)V" } : Jvm.MethodName) jdk_65_method_131_code (2 : Nat) (Option.none : Option Jvm.ClassFile.FieldType)).before a0 Z = true := hw _ (List.mem_of_getElem? (i := 255) rfl)
theorem d1_0 : decode jdk_42_method_3_code 0 = .ok (.aload_n 0, 1) := by decide +kernel
theorem d1_1 : decode jdk_42_method_3_code 1 = .ok (.aload_n 1, 1) := by decide +kernel
theorem d1_2 : decode jdk_42_method_3_code 2 = .ok (.iconst 0, 1) := by decide +kernel
theorem d1_3 : decode jdk_42_method_3_code 3 = .ok (.aload_n 1, 1) := by decide +kernel
theorem d1_4 : decode jdk_42_method_3_code 4 = .ok (.arraylength, 1) := by decide +kernel
theorem d1_5 : decode jdk_42_method_3_code 5 = .ok (.aconst_null, 1) := by decide +kernel
theorem d1_6 : decode jdk_42_method_3_code 6 = .ok (.invokespecial 27, 3) := by decide +kernel
theorem d1_9 : decode jdk_42_method_3_code 9 = .ok (.return_, 1) := by decide +kernel
theorem d2_0 : decode jdk_42_method_149_code 0 = .ok (.aload_n 0, 1) := by decide +kernel
theorem d2_1 : decode jdk_42_method_149_code 1 = .ok (.invokespecial 1, 3) := by decide +kernel
theorem d2_4 : decode jdk_42_method_149_code 4 = .ok (.iload_n 3, 1) := by decide +kernel
theorem d2_5 : decode jdk_42_method_149_code 5 = .ok (.ifCond .ne 22, 3) := by decide +kernel
theorem d2_8 : decode jdk_42_method_149_code 8 = .ok (.aload_n 0, 1) := by decide +kernel
theorem d2_9 : decode jdk_42_method_149_code 9 = .ok (.ldc 7, 2) := by decide +kernel
theorem d2_11 : decode jdk_42_method_149_code 11 = .ok (.getfield 9, 3) := by decide +kernel
theorem d2_14 : decode jdk_42_method_149_code 14 = .ok (.putfield 9, 3) := by decide +kernel
theorem d2_17 : decode jdk_42_method_149_code 17 = .ok (.aload_n 0, 1) := by decide +kernel
theorem d2_18 : decode jdk_42_method_149_code 18 = .ok (.ldc 7, 2) := by decide +kernel
theorem d2_20 : decode jdk_42_method_149_code 20 = .ok (.getfield 15, 3) := by decide +kernel
theorem d2_23 : decode jdk_42_method_149_code 23 = .ok (.putfield 15, 3) := by decide +kernel
theorem d2_26 : decode jdk_42_method_149_code 26 = .ok (.return_, 1) := by decide +kernel
theorem d7_0 : decode prog_5_method_3_code 0 = .ok (.new 8, 3) := by decide +kernel
theorem d7_3 : decode prog_5_method_3_code 3 = .ok (.dup, 1) := by decide +kernel
theorem d7_4 : decode prog_5_method_3_code 4 = .ok (.aload_n 0, 1) := by decide +kernel
theorem d7_5 : decode prog_5_method_3_code 5 = .ok (.getstatic 35, 3) := by decide +kernel
theorem d7_8 : decode prog_5_method_3_code 8 = .ok (.aconst_null, 1) := by decide +kernel
theorem d7_9 : decode prog_5_method_3_code 9 = .ok (.invokespecial 32, 3) := by decide +kernel
theorem d7_12 : decode prog_5_method_3_code 12 = .ok (.areturn, 1) := by decide +kernel
theorem d8_0 : decode prog_5_method_1_code 0 = .ok (.aload_n 0, 1) := by decide +kernel
theorem d8_1 : decode prog_5_method_1_code 1 = .ok (.invokespecial 1, 3) := by decide +kernel
theorem d8_4 : decode prog_5_method_1_code 4 = .ok (.aload_n 0, 1) := by decide +kernel
theorem d8_5 : decode prog_5_method_1_code 5 = .ok (.aload_n 1, 1) := by decide +kernel
theorem d8_6 : decode prog_5_method_1_code 6 = .ok (.putfield 7, 3) := by decide +kernel
theorem d8_9 : decode prog_5_method_1_code 9 = .ok (.aload_n 0, 1) := by decide +kernel
theorem d8_10 : decode prog_5_method_1_code 10 = .ok (.aload_n 2, 1) := by decide +kernel
theorem d8_11 : decode prog_5_method_1_code 11 = .ok (.putfield 13, 3) := by decide +kernel
theorem d8_14 : decode prog_5_method_1_code 14 = .ok (.aload_n 0, 1) := by decide +kernel
theorem d8_15 : decode prog_5_method_1_code 15 = .ok (.aload_n 3, 1) := by decide +kernel
theorem d8_16 : decode prog_5_method_1_code 16 = .ok (.putfield 17, 3) := by decide +kernel
theorem d8_19 : decode prog_5_method_1_code 19 = .ok (.return_, 1) := by decide +kernel
theorem d9_0 : decode prog_5_method_6_code 0 = .ok (.aload_n 0, 1) := by decide +kernel
theorem d9_1 : decode prog_5_method_6_code 1 = .ok (.getfield 7, 3) := by decide +kernel
theorem d9_4 : decode prog_5_method_6_code 4 = .ok (.areturn, 1) := by decide +kernel
theorem d10_0 : decode jdk_42_method_66_code 0 = .ok (.aload_n 0, 1) := by decide +kernel
theorem d10_1 : decode jdk_42_method_66_code 1 = .ok (.aload_n 1, 1) := by decide +kernel
theorem d10_2 : decode jdk_42_method_66_code 2 = .ok (.if_acmp .ne 5, 3) := by decide +kernel
theorem d10_5 : decode jdk_42_method_66_code 5 = .ok (.iconst 1, 1) := by decide +kernel
theorem d10_6 : decode jdk_42_method_66_code 6 = .ok (.ireturn, 1) := by decide +kernel
theorem d10_7 : decode jdk_42_method_66_code 7 = .ok (.aload_n 1, 1) := by decide +kernel
theorem d10_8 : decode jdk_42_method_66_code 8 = .ok (.instanceof 10, 3) := by decide +kernel
theorem d10_11 : decode jdk_42_method_66_code 11 = .ok (.ifCond .eq 43, 3) := by decide +kernel
theorem d10_14 : decode jdk_42_method_66_code 14 = .ok (.aload_n 1, 1) := by decide +kernel
theorem d10_15 : decode jdk_42_method_66_code 15 = .ok (.checkcast 10, 3) := by decide +kernel
theorem d10_18 : decode jdk_42_method_66_code 18 = .ok (.astore_n 2, 1) := by decide +kernel
theorem d10_19 : decode jdk_42_method_66_code 19 = .ok (.getstatic 38, 3) := by decide +kernel
theorem d10_22 : decode jdk_42_method_66_code 22 = .ok (.ifCond .eq 14, 3) := by decide +kernel
theorem d10_25 : decode jdk_42_method_66_code 25 = .ok (.aload_n 0, 1) := by decide +kernel
theorem d10_26 : decode jdk_42_method_66_code 26 = .ok (.getfield 15, 3) := by decide +kernel
theorem d10_29 : decode jdk_42_method_66_code 29 = .ok (.aload_n 2, 1) := by decide +kernel
theorem d10_30 : decode jdk_42_method_66_code 30 = .ok (.getfield 15, 3) := by decide +kernel
theorem d10_33 : decode jdk_42_method_66_code 33 = .ok (.if_icmp .ne 21, 3) := by decide +kernel
theorem d10_36 : decode jdk_42_method_66_code 36 = .ok (.aload_n 0, 1) := by decide +kernel
theorem d10_37 : decode jdk_42_method_66_code 37 = .ok (.getfield 9, 3) := by decide +kernel
theorem d10_40 : decode jdk_42_method_66_code 40 = .ok (.aload_n 2, 1) := by decide +kernel
theorem d10_41 : decode jdk_42_method_66_code 41 = .ok (.getfield 9, 3) := by decide +kernel
theorem d10_44 : decode jdk_42_method_66_code 44 = .ok (.invokestatic 541, 3) := by decide +kernel
theorem d10_47 : decode jdk_42_method_66_code 47 = .ok (.ifCond .eq 7, 3) := by decide +kernel
theorem d10_50 : decode jdk_42_method_66_code 50 = .ok (.iconst 1, 1) := by decide +kernel
theorem d10_51 : decode jdk_42_method_66_code 51 = .ok (.goto 4, 3) := by decide +kernel
theorem d10_54 : decode jdk_42_method_66_code 54 = .ok (.iconst 0, 1) := by decide +kernel
theorem d10_55 : decode jdk_42_method_66_code 55 = .ok (.ireturn, 1) := by decide +kernel
theorem d11_0 : decode prog_5_method_7_code 0 = .ok (.aload_n 0, 1) := by decide +kernel
theorem d11_1 : decode prog_5_method_7_code 1 = .ok (.getfield 17, 3) := by decide +kernel
theorem d11_4 : decode prog_5_method_7_code 4 = .ok (.ifnonnull 9, 3) := by decide +kernel
theorem d11_7 : decode prog_5_method_7_code 7 = .ok (.invokestatic 44, 3) := by decide +kernel
theorem d11_10 : decode prog_5_method_7_code 10 = .ok (.goto 13, 3) := by decide +kernel
theorem d11_23 : decode prog_5_method_7_code 23 = .ok (.areturn, 1) := by decide +kernel
theorem d12_0 : decode jdk_2649_method_2_code 0 = .ok (.getstatic 17, 3) := by decide +kernel
theorem d12_3 : decode jdk_2649_method_2_code 3 = .ok (.areturn, 1) := by decide +kernel
theorem d13_0 : decode jdk_2649_method_6_code 0 = .ok (.aload_n 0, 1) := by decide +kernel
theorem d13_1 : decode jdk_2649_method_6_code 1 = .ok (.getfield 7, 3) := by decide +kernel
theorem d13_4 : decode jdk_2649_method_6_code 4 = .ok (.ireturn, 1) := by decide +kernel
theorem d14_0 : decode prog_5_method_8_code 0 = .ok (.aload_n 0, 1) := by decide +kernel
theorem d14_1 : decode prog_5_method_8_code 1 = .ok (.getfield 17, 3) := by decide +kernel
theorem d14_4 : decode prog_5_method_8_code 4 = .ok (.ifnull 17, 3) := by decide +kernel
theorem d14_21 : decode prog_5_method_8_code 21 = .ok (.iconst 0, 1) := by decide +kernel
theorem d14_22 : decode prog_5_method_8_code 22 = .ok (.ireturn, 1) := by decide +kernel
theorem d15_0 : decode prog_5_method_9_code 0 = .ok (.aload_n 0, 1) := by decide +kernel
theorem d15_1 : decode prog_5_method_9_code 1 = .ok (.getfield 13, 3) := by decide +kernel
theorem d15_4 : decode prog_5_method_9_code 4 = .ok (.getstatic 38, 3) := by decide +kernel
theorem d15_7 : decode prog_5_method_9_code 7 = .ok (.if_acmp .ne 7, 3) := by decide +kernel
theorem d15_10 : decode prog_5_method_9_code 10 = .ok (.iconst 1, 1) := by decide +kernel
theorem d15_11 : decode prog_5_method_9_code 11 = .ok (.goto 4, 3) := by decide +kernel
theorem d15_14 : decode prog_5_method_9_code 14 = .ok (.iconst 0, 1) := by decide +kernel
theorem d15_15 : decode prog_5_method_9_code 15 = .ok (.ireturn, 1) := by decide +kernel
theorem d16_0 : decode prog_5_method_10_code 0 = .ok (.aload_n 0, 1) := by decide +kernel
theorem d16_1 : decode prog_5_method_10_code 1 = .ok (.getfield 13, 3) := by decide +kernel
theorem d16_4 : decode prog_5_method_10_code 4 = .ok (.getstatic 41, 3) := by decide +kernel
theorem d16_7 : decode prog_5_method_10_code 7 = .ok (.if_acmp .ne 7, 3) := by decide +kernel
theorem d16_10 : decode prog_5_method_10_code 10 = .ok (.iconst 1, 1) := by decide +kernel
theorem d16_11 : decode prog_5_method_10_code 11 = .ok (.goto 4, 3) := by decide +kernel
theorem d16_14 : decode prog_5_method_10_code 14 = .ok (.iconst 0, 1) := by decide +kernel
theorem d16_15 : decode prog_5_method_10_code 15 = .ok (.ireturn, 1) := by decide +kernel
theorem d17_0 : decode prog_5_method_11_code 0 = .ok (.aload_n 0, 1) := by decide +kernel
theorem d17_1 : decode prog_5_method_11_code 1 = .ok (.getfield 13, 3) := by decide +kernel
theorem d17_4 : decode prog_5_method_11_code 4 = .ok (.invokevirtual 58, 3) := by decide +kernel
theorem d17_7 : decode prog_5_method_11_code 7 = .ok (.tableswitch 43 1 3 #[31, 25, 37], 25) := by decide +kernel
theorem d17_38 : decode prog_5_method_11_code 38 = .ok (.ldc 63, 2) := by decide +kernel
theorem d17_40 : decode prog_5_method_11_code 40 = .ok (.astore_n 1, 1) := by decide +kernel
theorem d17_41 : decode prog_5_method_11_code 41 = .ok (.goto 47, 3) := by decide +kernel
theorem d17_88 : decode prog_5_method_11_code 88 = .ok (.new 69, 3) := by decide +kernel
theorem d17_91 : decode prog_5_method_11_code 91 = .ok (.dup, 1) := by decide +kernel
theorem d17_92 : decode prog_5_method_11_code 92 = .ok (.invokespecial 71, 3) := by decide +kernel
theorem d17_95 : decode prog_5_method_11_code 95 = .ok (.aload_n 0, 1) := by decide +kernel
theorem d17_96 : decode prog_5_method_11_code 96 = .ok (.getfield 7, 3) := by decide +kernel
theorem d17_99 : decode prog_5_method_11_code 99 = .ok (.invokevirtual 74, 3) := by decide +kernel
theorem d17_102 : decode prog_5_method_11_code 102 = .ok (.ldc 85, 2) := by decide +kernel
theorem d17_104 : decode prog_5_method_11_code 104 = .ok (.invokevirtual 74, 3) := by decide +kernel
theorem d17_107 : decode prog_5_method_11_code 107 = .ok (.aload_n 1, 1) := by decide +kernel
theorem d17_108 : decode prog_5_method_11_code 108 = .ok (.invokevirtual 74, 3) := by decide +kernel
theorem d17_111 : decode prog_5_method_11_code 111 = .ok (.invokevirtual 81, 3) := by decide +kernel
theorem d17_114 : decode prog_5_method_11_code 114 = .ok (.areturn, 1) := by decide +kernel
theorem d18_0 : decode jdk_37_method_2_code 0 = .ok (.aload_n 0, 1) := by decide +kernel
theorem d18_1 : decode jdk_37_method_2_code 1 = .ok (.getfield 7, 3) := by decide +kernel
theorem d18_4 : decode jdk_37_method_2_code 4 = .ok (.ireturn, 1) := by decide +kernel
theorem d19_0 : decode jdk_67_method_1_code 0 = .ok (.aload_n 0, 1) := by decide +kernel
theorem d19_1 : decode jdk_67_method_1_code 1 = .ok (.bipush 16, 2) := by decide +kernel
theorem d19_3 : decode jdk_67_method_1_code 3 = .ok (.invokespecial 1, 3) := by decide +kernel
theorem d19_6 : decode jdk_67_method_1_code 6 = .ok (.return_, 1) := by decide +kernel
theorem d20_0 : decode jdk_68_method_2_code 0 = .ok (.aload_n 0, 1) := by decide +kernel
theorem d20_1 : decode jdk_68_method_2_code 1 = .ok (.invokespecial 3, 3) := by decide +kernel
theorem d20_4 : decode jdk_68_method_2_code 4 = .ok (.getstatic 18, 3) := by decide +kernel
theorem d20_7 : decode jdk_68_method_2_code 7 = .ok (.ifCond .eq 18, 3) := by decide +kernel
theorem d20_10 : decode jdk_68_method_2_code 10 = .ok (.aload_n 0, 1) := by decide +kernel
theorem d20_11 : decode jdk_68_method_2_code 11 = .ok (.iload_n 1, 1) := by decide +kernel
theorem d20_12 : decode jdk_68_method_2_code 12 = .ok (.newarray .byte, 2) := by decide +kernel
theorem d20_14 : decode jdk_68_method_2_code 14 = .ok (.putfield 15, 3) := by decide +kernel
theorem d20_17 : decode jdk_68_method_2_code 17 = .ok (.aload_n 0, 1) := by decide +kernel
theorem d20_18 : decode jdk_68_method_2_code 18 = .ok (.iconst 0, 1) := by decide +kernel
theorem d20_19 : decode jdk_68_method_2_code 19 = .ok (.putfield 22, 3) := by decide +kernel
theorem d20_22 : decode jdk_68_method_2_code 22 = .ok (.goto 16, 3) := by decide +kernel
theorem d20_38 : decode jdk_68_method_2_code 38 = .ok (.return_, 1) := by decide +kernel
theorem d21_0 : decode jdk_67_method_7_code 0 = .ok (.aload_n 0, 1) := by decide +kernel
theorem d21_1 : decode jdk_67_method_7_code 1 = .ok (.aload_n 1, 1) := by decide +kernel
theorem d21_2 : decode jdk_67_method_7_code 2 = .ok (.invokespecial 29, 3) := by decide +kernel
theorem d21_5 : decode jdk_67_method_7_code 5 = .ok (.pop, 1) := by decide +kernel
theorem d21_6 : decode jdk_67_method_7_code 6 = .ok (.aload_n 0, 1) := by decide +kernel
theorem d21_7 : decode jdk_67_method_7_code 7 = .ok (.areturn, 1) := by decide +kernel
theorem d22_0 : decode jdk_68_method_22_code 0 = .ok (.aload_n 1, 1) := by decide +kernel
theorem d22_1 : decode jdk_68_method_22_code 1 = .ok (.ifnonnull 8, 3) := by decide +kernel
theorem d22_9 : decode jdk_68_method_22_code 9 = .ok (.aload_n 1, 1) := by decide +kernel
theorem d22_10 : decode jdk_68_method_22_code 10 = .ok (.invokevirtual 32, 3) := by decide +kernel
theorem d22_13 : decode jdk_68_method_22_code 13 = .ok (.istore_n 2, 1) := by decide +kernel
theorem d22_14 : decode jdk_68_method_22_code 14 = .ok (.aload_n 0, 1) := by decide +kernel
theorem d22_15 : decode jdk_68_method_22_code 15 = .ok (.aload_n 0, 1) := by decide +kernel
theorem d22_16 : decode jdk_68_method_22_code 16 = .ok (.getfield 79, 3) := by decide +kernel
theorem d22_19 : decode jdk_68_method_22_code 19 = .ok (.iload_n 2, 1) := by decide +kernel
theorem d22_20 : decode jdk_68_method_22_code 20 = .ok (.iadd, 1) := by decide +kernel
theorem d22_21 : decode jdk_68_method_22_code 21 = .ok (.invokevirtual 100, 3) := by decide +kernel
theorem d22_24 : decode jdk_68_method_22_code 24 = .ok (.aload_n 0, 1) := by decide +kernel
theorem d22_25 : decode jdk_68_method_22_code 25 = .ok (.aload_n 0, 1) := by decide +kernel
theorem d22_26 : decode jdk_68_method_22_code 26 = .ok (.getfield 79, 3) := by decide +kernel
theorem d22_29 : decode jdk_68_method_22_code 29 = .ok (.aload_n 1, 1) := by decide +kernel
theorem d22_30 : decode jdk_68_method_22_code 30 = .ok (.invokevirtual 208, 3) := by decide +kernel
theorem d22_33 : decode jdk_68_method_22_code 33 = .ok (.aload_n 0, 1) := by decide +kernel
theorem d22_34 : decode jdk_68_method_22_code 34 = .ok (.dup, 1) := by decide +kernel
theorem d22_35 : decode jdk_68_method_22_code 35 = .ok (.getfield 79, 3) := by decide +kernel
theorem d22_38 : decode jdk_68_method_22_code 38 = .ok (.iload_n 2, 1) := by decide +kernel
theorem d22_39 : decode jdk_68_method_22_code 39 = .ok (.iadd, 1) := by decide +kernel
theorem d22_40 : decode jdk_68_method_22_code 40 = .ok (.putfield 79, 3) := by decide +kernel
theorem d22_43 : decode jdk_68_method_22_code 43 = .ok (.aload_n 0, 1) := by decide +kernel
theorem d22_44 : decode jdk_68_method_22_code 44 = .ok (.areturn, 1) := by decide +kernel
theorem d23_0 : decode jdk_42_method_54_code 0 = .ok (.aload_n 0, 1) := by decide +kernel
theorem d23_1 : decode jdk_42_method_54_code 1 = .ok (.getfield 9, 3) := by decide +kernel
theorem d23_4 : decode jdk_42_method_54_code 4 = .ok (.arraylength, 1) := by decide +kernel
theorem d23_5 : decode jdk_42_method_54_code 5 = .ok (.aload_n 0, 1) := by decide +kernel
theorem d23_6 : decode jdk_42_method_54_code 6 = .ok (.invokevirtual 335, 3) := by decide +kernel
theorem d23_9 : decode jdk_42_method_54_code 9 = .ok (.ishr, 1) := by decide +kernel
theorem d23_10 : decode jdk_42_method_54_code 10 = .ok (.ireturn, 1) := by decide +kernel
theorem d24_0 : decode jdk_42_method_152_code 0 = .ok (.getstatic 38, 3) := by decide +kernel
theorem d24_3 : decode jdk_42_method_152_code 3 = .ok (.ifCond .eq 10, 3) := by decide +kernel
theorem d24_6 : decode jdk_42_method_152_code 6 = .ok (.aload_n 0, 1) := by decide +kernel
theorem d24_7 : decode jdk_42_method_152_code 7 = .ok (.getfield 15, 3) := by decide +kernel
theorem d24_10 : decode jdk_42_method_152_code 10 = .ok (.goto 4, 3) := by decide +kernel
theorem d24_14 : decode jdk_42_method_152_code 14 = .ok (.ireturn, 1) := by decide +kernel
theorem d25_0 : decode jdk_68_method_9_code 0 = .ok (.aload_n 0, 1) := by decide +kernel
theorem d25_1 : decode jdk_68_method_9_code 1 = .ok (.getfield 15, 3) := by decide +kernel
theorem d25_4 : decode jdk_68_method_9_code 4 = .ok (.arraylength, 1) := by decide +kernel
theorem d25_5 : decode jdk_68_method_9_code 5 = .ok (.aload_n 0, 1) := by decide +kernel
theorem d25_6 : decode jdk_68_method_9_code 6 = .ok (.getfield 22, 3) := by decide +kernel
theorem d25_9 : decode jdk_68_method_9_code 9 = .ok (.ishr, 1) := by decide +kernel
theorem d25_10 : decode jdk_68_method_9_code 10 = .ok (.istore_n 2, 1) := by decide +kernel
theorem d25_11 : decode jdk_68_method_9_code 11 = .ok (.iload_n 1, 1) := by decide +kernel
theorem d25_12 : decode jdk_68_method_9_code 12 = .ok (.iload_n 2, 1) := by decide +kernel
theorem d25_13 : decode jdk_68_method_9_code 13 = .ok (.isub, 1) := by decide +kernel
theorem d25_14 : decode jdk_68_method_9_code 14 = .ok (.ifCond .le 24, 3) := by decide +kernel
theorem d25_17 : decode jdk_68_method_9_code 17 = .ok (.aload_n 0, 1) := by decide +kernel
theorem d25_18 : decode jdk_68_method_9_code 18 = .ok (.aload_n 0, 1) := by decide +kernel
theorem d25_19 : decode jdk_68_method_9_code 19 = .ok (.getfield 15, 3) := by decide +kernel
theorem d25_22 : decode jdk_68_method_9_code 22 = .ok (.aload_n 0, 1) := by decide +kernel
theorem d25_23 : decode jdk_68_method_9_code 23 = .ok (.iload_n 1, 1) := by decide +kernel
theorem d25_24 : decode jdk_68_method_9_code 24 = .ok (.invokevirtual 104, 3) := by decide +kernel
theorem d25_27 : decode jdk_68_method_9_code 27 = .ok (.aload_n 0, 1) := by decide +kernel
theorem d25_28 : decode jdk_68_method_9_code 28 = .ok (.getfield 22, 3) := by decide +kernel
theorem d25_31 : decode jdk_68_method_9_code 31 = .ok (.ishl, 1) := by decide +kernel
theorem d25_32 : decode jdk_68_method_9_code 32 = .ok (.invokestatic 108, 3) := by decide +kernel
theorem d25_35 : decode jdk_68_method_9_code 35 = .ok (.putfield 15, 3) := by decide +kernel
theorem d25_38 : decode jdk_68_method_9_code 38 = .ok (.return_, 1) := by decide +kernel
theorem d26_0 : decode jdk_68_method_73_code 0 = .ok (.aload_n 0, 1) := by decide +kernel
theorem d26_1 : decode jdk_68_method_73_code 1 = .ok (.aload_n 2, 1) := by decide +kernel
theorem d26_2 : decode jdk_68_method_73_code 2 = .ok (.invokevirtual 397, 3) := by decide +kernel
theorem d26_5 : decode jdk_68_method_73_code 5 = .ok (.aload_n 2, 1) := by decide +kernel
theorem d26_6 : decode jdk_68_method_73_code 6 = .ok (.aload_n 0, 1) := by decide +kernel
theorem d26_7 : decode jdk_68_method_73_code 7 = .ok (.getfield 15, 3) := by decide +kernel
theorem d26_10 : decode jdk_68_method_73_code 10 = .ok (.iload_n 1, 1) := by decide +kernel
theorem d26_11 : decode jdk_68_method_73_code 11 = .ok (.aload_n 0, 1) := by decide +kernel
theorem d26_12 : decode jdk_68_method_73_code 12 = .ok (.getfield 22, 3) := by decide +kernel
theorem d26_15 : decode jdk_68_method_73_code 15 = .ok (.invokevirtual 399, 3) := by decide +kernel
theorem d26_18 : decode jdk_68_method_73_code 18 = .ok (.return_, 1) := by decide +kernel
theorem d27_0 : decode jdk_68_method_71_code 0 = .ok (.getstatic 18, 3) := by decide +kernel
theorem d27_3 : decode jdk_68_method_71_code 3 = .ok (.ifCond .eq 18, 3) := by decide +kernel
theorem d27_6 : decode jdk_68_method_71_code 6 = .ok (.aload_n 0, 1) := by decide +kernel
theorem d27_7 : decode jdk_68_method_71_code 7 = .ok (.getfield 22, 3) := by decide +kernel
theorem d27_10 : decode jdk_68_method_71_code 10 = .ok (.aload_n 1, 1) := by decide +kernel
theorem d27_11 : decode jdk_68_method_71_code 11 = .ok (.invokevirtual 40, 3) := by decide +kernel
theorem d27_14 : decode jdk_68_method_71_code 14 = .ok (.if_icmp .eq 7, 3) := by decide +kernel
theorem d27_21 : decode jdk_68_method_71_code 21 = .ok (.return_, 1) := by decide +kernel
theorem d28_0 : decode jdk_42_method_147_code 0 = .ok (.aload_n 0, 1) := by decide +kernel
theorem d28_1 : decode jdk_42_method_147_code 1 = .ok (.invokevirtual 335, 3) := by decide +kernel
theorem d28_4 : decode jdk_42_method_147_code 4 = .ok (.iload_n 3, 1) := by decide +kernel
theorem d28_5 : decode jdk_42_method_147_code 5 = .ok (.if_icmp .ne 23, 3) := by decide +kernel
theorem d28_8 : decode jdk_42_method_147_code 8 = .ok (.aload_n 0, 1) := by decide +kernel
theorem d28_9 : decode jdk_42_method_147_code 9 = .ok (.getfield 9, 3) := by decide +kernel
theorem d28_12 : decode jdk_42_method_147_code 12 = .ok (.iconst 0, 1) := by decide +kernel
theorem d28_13 : decode jdk_42_method_147_code 13 = .ok (.aload_n 1, 1) := by decide +kernel
theorem d28_14 : decode jdk_42_method_147_code 14 = .ok (.iload_n 2, 1) := by decide +kernel
theorem d28_15 : decode jdk_42_method_147_code 15 = .ok (.iload_n 3, 1) := by decide +kernel
theorem d28_16 : decode jdk_42_method_147_code 16 = .ok (.ishl, 1) := by decide +kernel
theorem d28_17 : decode jdk_42_method_147_code 17 = .ok (.aload_n 0, 1) := by decide +kernel
theorem d28_18 : decode jdk_42_method_147_code 18 = .ok (.getfield 9, 3) := by decide +kernel
theorem d28_21 : decode jdk_42_method_147_code 21 = .ok (.arraylength, 1) := by decide +kernel
theorem d28_22 : decode jdk_42_method_147_code 22 = .ok (.invokestatic 212, 3) := by decide +kernel
theorem d28_25 : decode jdk_42_method_147_code 25 = .ok (.goto 18, 3) := by decide +kernel
theorem d28_43 : decode jdk_42_method_147_code 43 = .ok (.return_, 1) := by decide +kernel
theorem d29_0 : decode jdk_67_method_42_code 0 = .ok (.new 18, 3) := by decide +kernel
theorem d29_3 : decode jdk_67_method_42_code 3 = .ok (.dup, 1) := by decide +kernel
theorem d29_4 : decode jdk_67_method_42_code 4 = .ok (.aload_n 0, 1) := by decide +kernel
theorem d29_5 : decode jdk_67_method_42_code 5 = .ok (.invokespecial 137, 3) := by decide +kernel
theorem d29_8 : decode jdk_67_method_42_code 8 = .ok (.areturn, 1) := by decide +kernel
theorem d30_0 : decode jdk_42_method_53_code 0 = .ok (.aload_n 0, 1) := by decide +kernel
theorem d30_1 : decode jdk_42_method_53_code 1 = .ok (.aload_n 1, 1) := by decide +kernel
theorem d30_2 : decode jdk_42_method_53_code 2 = .ok (.aconst_null, 1) := by decide +kernel
theorem d30_3 : decode jdk_42_method_53_code 3 = .ok (.invokespecial 489, 3) := by decide +kernel
theorem d30_6 : decode jdk_42_method_53_code 6 = .ok (.return_, 1) := by decide +kernel
theorem d31_0 : decode jdk_42_method_150_code 0 = .ok (.aload_n 0, 1) := by decide +kernel
theorem d31_1 : decode jdk_42_method_150_code 1 = .ok (.invokespecial 1, 3) := by decide +kernel
theorem d31_4 : decode jdk_42_method_150_code 4 = .ok (.aload_n 1, 1) := by decide +kernel
theorem d31_5 : decode jdk_42_method_150_code 5 = .ok (.invokevirtual 552, 3) := by decide +kernel
theorem d31_8 : decode jdk_42_method_150_code 8 = .ok (.astore_n 3, 1) := by decide +kernel
theorem d31_9 : decode jdk_42_method_150_code 9 = .ok (.aload_n 1, 1) := by decide +kernel
theorem d31_10 : decode jdk_42_method_150_code 10 = .ok (.invokevirtual 549, 3) := by decide +kernel
theorem d31_13 : decode jdk_42_method_150_code 13 = .ok (.istore 4, 2) := by decide +kernel
theorem d31_15 : decode jdk_42_method_150_code 15 = .ok (.aload_n 1, 1) := by decide +kernel
theorem d31_16 : decode jdk_42_method_150_code 16 = .ok (.invokevirtual 1047, 3) := by decide +kernel
theorem d31_19 : decode jdk_42_method_150_code 19 = .ok (.ifCond .eq 22, 3) := by decide +kernel
theorem d31_22 : decode jdk_42_method_150_code 22 = .ok (.aload_n 0, 1) := by decide +kernel
theorem d31_23 : decode jdk_42_method_150_code 23 = .ok (.iconst 0, 1) := by decide +kernel
theorem d31_24 : decode jdk_42_method_150_code 24 = .ok (.putfield 15, 3) := by decide +kernel
theorem d31_27 : decode jdk_42_method_150_code 27 = .ok (.aload_n 0, 1) := by decide +kernel
theorem d31_28 : decode jdk_42_method_150_code 28 = .ok (.aload_n 3, 1) := by decide +kernel
theorem d31_29 : decode jdk_42_method_150_code 29 = .ok (.iconst 0, 1) := by decide +kernel
theorem d31_30 : decode jdk_42_method_150_code 30 = .ok (.iload 4, 2) := by decide +kernel
theorem d31_32 : decode jdk_42_method_150_code 32 = .ok (.invokestatic 54, 3) := by decide +kernel
theorem d31_35 : decode jdk_42_method_150_code 35 = .ok (.putfield 9, 3) := by decide +kernel
theorem d31_38 : decode jdk_42_method_150_code 38 = .ok (.goto 59, 3) := by decide +kernel
theorem d31_97 : decode jdk_42_method_150_code 97 = .ok (.return_, 1) := by decide +kernel
theorem d32_0 : decode jdk_68_method_64_code 0 = .ok (.aload_n 0, 1) := by decide +kernel
theorem d32_1 : decode jdk_68_method_64_code 1 = .ok (.getfield 15, 3) := by decide +kernel
theorem d32_4 : decode jdk_68_method_64_code 4 = .ok (.areturn, 1) := by decide +kernel
theorem d33_0 : decode jdk_67_method_93_code 0 = .ok (.aload_n 0, 1) := by decide +kernel
theorem d33_1 : decode jdk_67_method_93_code 1 = .ok (.invokespecial 343, 3) := by decide +kernel
theorem d33_4 : decode jdk_67_method_93_code 4 = .ok (.ireturn, 1) := by decide +kernel
theorem d34_0 : decode jdk_68_method_6_code 0 = .ok (.aload_n 0, 1) := by decide +kernel
theorem d34_1 : decode jdk_68_method_6_code 1 = .ok (.getfield 79, 3) := by decide +kernel
theorem d34_4 : decode jdk_68_method_6_code 4 = .ok (.ireturn, 1) := by decide +kernel
theorem d35_0 : decode jdk_68_method_68_code 0 = .ok (.getstatic 18, 3) := by decide +kernel
theorem d35_3 : decode jdk_68_method_68_code 3 = .ok (.ifCond .eq 14, 3) := by decide +kernel
theorem d35_6 : decode jdk_68_method_68_code 6 = .ok (.aload_n 0, 1) := by decide +kernel
theorem d35_7 : decode jdk_68_method_68_code 7 = .ok (.getfield 22, 3) := by decide +kernel
theorem d35_10 : decode jdk_68_method_68_code 10 = .ok (.ifCond .ne 7, 3) := by decide +kernel
theorem d35_13 : decode jdk_68_method_68_code 13 = .ok (.iconst 1, 1) := by decide +kernel
theorem d35_14 : decode jdk_68_method_68_code 14 = .ok (.goto 4, 3) := by decide +kernel
theorem d35_18 : decode jdk_68_method_68_code 18 = .ok (.ireturn, 1) := by decide +kernel
theorem d36_0 : decode jdk_65_method_132_code 0 = .ok (.iload_n 1, 1) := by decide +kernel
theorem d36_1 : decode jdk_65_method_132_code 1 = .ok (.ifCond .ne 9, 3) := by decide +kernel
theorem d36_4 : decode jdk_65_method_132_code 4 = .ok (.iload_n 2, 1) := by decide +kernel
theorem d36_5 : decode jdk_65_method_132_code 5 = .ok (.aload_n 0, 1) := by decide +kernel
theorem d36_6 : decode jdk_65_method_132_code 6 = .ok (.arraylength, 1) := by decide +kernel
theorem d36_7 : decode jdk_65_method_132_code 7 = .ok (.if_icmp .eq 10, 3) := by decide +kernel
theorem d36_10 : decode jdk_65_method_132_code 10 = .ok (.aload_n 0, 1) := by decide +kernel
theorem d36_11 : decode jdk_65_method_132_code 11 = .ok (.iload_n 1, 1) := by decide +kernel
theorem d36_12 : decode jdk_65_method_132_code 12 = .ok (.iload_n 2, 1) := by decide +kernel
theorem d36_13 : decode jdk_65_method_132_code 13 = .ok (.invokestatic 339, 3) := by decide +kernel
theorem d36_16 : decode jdk_65_method_132_code 16 = .ok (.areturn, 1) := by decide +kernel
theorem d36_17 : decode jdk_65_method_132_code 17 = .ok (.aload_n 0, 1) := by decide +kernel
theorem d36_18 : decode jdk_65_method_132_code 18 = .ok (.invokevirtual 310, 3) := by decide +kernel
theorem d36_21 : decode jdk_65_method_132_code 21 = .ok (.checkcast 311, 3) := by decide +kernel
theorem d36_24 : decode jdk_65_method_132_code 24 = .ok (.areturn, 1) := by decide +kernel
theorem d37_0 : decode jdk_43_method_13_code 0 = .ok (.aload_n 0, 1) := by decide +kernel
theorem d37_1 : decode jdk_43_method_13_code 1 = .ok (.arraylength, 1) := by decide +kernel
theorem d37_2 : decode jdk_43_method_13_code 2 = .ok (.aload_n 1, 1) := by decide +kernel
theorem d37_3 : decode jdk_43_method_13_code 3 = .ok (.arraylength, 1) := by decide +kernel
theorem d37_4 : decode jdk_43_method_13_code 4 = .ok (.if_icmp .ne 30, 3) := by decide +kernel
theorem d37_7 : decode jdk_43_method_13_code 7 = .ok (.iconst 0, 1) := by decide +kernel
theorem d37_8 : decode jdk_43_method_13_code 8 = .ok (.istore_n 2, 1) := by decide +kernel
theorem d37_9 : decode jdk_43_method_13_code 9 = .ok (.iload_n 2, 1) := by decide +kernel
theorem d37_10 : decode jdk_43_method_13_code 10 = .ok (.aload_n 0, 1) := by decide +kernel
theorem d37_11 : decode jdk_43_method_13_code 11 = .ok (.arraylength, 1) := by decide +kernel
theorem d37_12 : decode jdk_43_method_13_code 12 = .ok (.if_icmp .ge 20, 3) := by decide +kernel
theorem d37_15 : decode jdk_43_method_13_code 15 = .ok (.aload_n 0, 1) := by decide +kernel
theorem d37_16 : decode jdk_43_method_13_code 16 = .ok (.iload_n 2, 1) := by decide +kernel
theorem d37_17 : decode jdk_43_method_13_code 17 = .ok (.baload, 1) := by decide +kernel
theorem d37_18 : decode jdk_43_method_13_code 18 = .ok (.aload_n 1, 1) := by decide +kernel
theorem d37_19 : decode jdk_43_method_13_code 19 = .ok (.iload_n 2, 1) := by decide +kernel
theorem d37_20 : decode jdk_43_method_13_code 20 = .ok (.baload, 1) := by decide +kernel
theorem d37_21 : decode jdk_43_method_13_code 21 = .ok (.if_icmp .eq 5, 3) := by decide +kernel
theorem d37_24 : decode jdk_43_method_13_code 24 = .ok (.iconst 0, 1) := by decide +kernel
theorem d37_25 : decode jdk_43_method_13_code 25 = .ok (.ireturn, 1) := by decide +kernel
theorem d37_26 : decode jdk_43_method_13_code 26 = .ok (.iinc 2 1, 3) := by decide +kernel
theorem d37_29 : decode jdk_43_method_13_code 29 = .ok (.goto (-20), 3) := by decide +kernel
theorem d37_32 : decode jdk_43_method_13_code 32 = .ok (.iconst 1, 1) := by decide +kernel
theorem d37_33 : decode jdk_43_method_13_code 33 = .ok (.ireturn, 1) := by decide +kernel
theorem d37_34 : decode jdk_43_method_13_code 34 = .ok (.iconst 0, 1) := by decide +kernel
theorem d37_35 : decode jdk_43_method_13_code 35 = .ok (.ireturn, 1) := by decide +kernel
theorem d38_0 : decode jdk_68_method_10_code 0 = .ok (.aload_n 0, 1) := by decide +kernel
theorem d38_1 : decode jdk_68_method_10_code 1 = .ok (.getfield 15, 3) := by decide +kernel
theorem d38_4 : decode jdk_68_method_10_code 4 = .ok (.arraylength, 1) := by decide +kernel
theorem d38_5 : decode jdk_68_method_10_code 5 = .ok (.istore_n 2, 1) := by decide +kernel
theorem d38_6 : decode jdk_68_method_10_code 6 = .ok (.iload_n 1, 1) := by decide +kernel
theorem d38_7 : decode jdk_68_method_10_code 7 = .ok (.aload_n 0, 1) := by decide +kernel
theorem d38_8 : decode jdk_68_method_10_code 8 = .ok (.getfield 22, 3) := by decide +kernel
theorem d38_11 : decode jdk_68_method_10_code 11 = .ok (.ishl, 1) := by decide +kernel
theorem d38_12 : decode jdk_68_method_10_code 12 = .ok (.istore_n 3, 1) := by decide +kernel
theorem d38_13 : decode jdk_68_method_10_code 13 = .ok (.iload_n 3, 1) := by decide +kernel
theorem d38_14 : decode jdk_68_method_10_code 14 = .ok (.iload_n 2, 1) := by decide +kernel
theorem d38_15 : decode jdk_68_method_10_code 15 = .ok (.isub, 1) := by decide +kernel
theorem d38_16 : decode jdk_68_method_10_code 16 = .ok (.istore 4, 2) := by decide +kernel
theorem d38_18 : decode jdk_68_method_10_code 18 = .ok (.iload_n 2, 1) := by decide +kernel
theorem d38_19 : decode jdk_68_method_10_code 19 = .ok (.iload 4, 2) := by decide +kernel
theorem d38_21 : decode jdk_68_method_10_code 21 = .ok (.iload_n 2, 1) := by decide +kernel
theorem d38_22 : decode jdk_68_method_10_code 22 = .ok (.iconst 2, 1) := by decide +kernel
theorem d38_23 : decode jdk_68_method_10_code 23 = .ok (.aload_n 0, 1) := by decide +kernel
theorem d38_24 : decode jdk_68_method_10_code 24 = .ok (.getfield 22, 3) := by decide +kernel
theorem d38_27 : decode jdk_68_method_10_code 27 = .ok (.ishl, 1) := by decide +kernel
theorem d38_28 : decode jdk_68_method_10_code 28 = .ok (.iadd, 1) := by decide +kernel
theorem d38_29 : decode jdk_68_method_10_code 29 = .ok (.invokestatic 114, 3) := by decide +kernel
theorem d38_32 : decode jdk_68_method_10_code 32 = .ok (.istore 5, 2) := by decide +kernel
theorem d38_34 : decode jdk_68_method_10_code 34 = .ok (.iload 5, 2) := by decide +kernel
theorem d38_36 : decode jdk_68_method_10_code 36 = .ok (.ldc 39, 2) := by decide +kernel
theorem d38_38 : decode jdk_68_method_10_code 38 = .ok (.if_icmp .ne 13, 3) := by decide +kernel
theorem d38_51 : decode jdk_68_method_10_code 51 = .ok (.iload 5, 2) := by decide +kernel
theorem d38_53 : decode jdk_68_method_10_code 53 = .ok (.aload_n 0, 1) := by decide +kernel
theorem d38_54 : decode jdk_68_method_10_code 54 = .ok (.getfield 22, 3) := by decide +kernel
theorem d38_57 : decode jdk_68_method_10_code 57 = .ok (.ishr, 1) := by decide +kernel
theorem d38_58 : decode jdk_68_method_10_code 58 = .ok (.ireturn, 1) := by decide +kernel
theorem d39_0 : decode jdk_48_method_27_code 0 = .ok (.iload_n 0, 1) := by decide +kernel
theorem d39_1 : decode jdk_48_method_27_code 1 = .ok (.iload_n 1, 1) := by decide +kernel
theorem d39_2 : decode jdk_48_method_27_code 2 = .ok (.iload_n 2, 1) := by decide +kernel
theorem d39_3 : decode jdk_48_method_27_code 3 = .ok (.invokestatic 194, 3) := by decide +kernel
theorem d39_6 : decode jdk_48_method_27_code 6 = .ok (.iadd, 1) := by decide +kernel
theorem d39_7 : decode jdk_48_method_27_code 7 = .ok (.istore_n 3, 1) := by decide +kernel
theorem d39_8 : decode jdk_48_method_27_code 8 = .ok (.iconst 0, 1) := by decide +kernel
theorem d39_9 : decode jdk_48_method_27_code 9 = .ok (.iload_n 3, 1) := by decide +kernel
theorem d39_10 : decode jdk_48_method_27_code 10 = .ok (.if_icmp .ge 11, 3) := by decide +kernel
theorem d39_13 : decode jdk_48_method_27_code 13 = .ok (.iload_n 3, 1) := by decide +kernel
theorem d39_14 : decode jdk_48_method_27_code 14 = .ok (.ldc 200, 2) := by decide +kernel
theorem d39_16 : decode jdk_48_method_27_code 16 = .ok (.if_icmp .gt 5, 3) := by decide +kernel
theorem d39_19 : decode jdk_48_method_27_code 19 = .ok (.iload_n 3, 1) := by decide +kernel
theorem d39_20 : decode jdk_48_method_27_code 20 = .ok (.ireturn, 1) := by decide +kernel
theorem d40_0 : decode jdk_29_method_65_code 0 = .ok (.iload_n 0, 1) := by decide +kernel
theorem d40_1 : decode jdk_29_method_65_code 1 = .ok (.iload_n 1, 1) := by decide +kernel
theorem d40_2 : decode jdk_29_method_65_code 2 = .ok (.if_icmp .lt 7, 3) := by decide +kernel
theorem d40_9 : decode jdk_29_method_65_code 9 = .ok (.iload_n 1, 1) := by decide +kernel
theorem d40_10 : decode jdk_29_method_65_code 10 = .ok (.ireturn, 1) := by decide +kernel
theorem d41_0 : decode jdk_65_method_121_code 0 = .ok (.iload_n 1, 1) := by decide +kernel
theorem d41_1 : decode jdk_65_method_121_code 1 = .ok (.aload_n 0, 1) := by decide +kernel
theorem d41_2 : decode jdk_65_method_121_code 2 = .ok (.arraylength, 1) := by decide +kernel
theorem d41_3 : decode jdk_65_method_121_code 3 = .ok (.if_icmp .ne 11, 3) := by decide +kernel
theorem d41_14 : decode jdk_65_method_121_code 14 = .ok (.iload_n 1, 1) := by decide +kernel
theorem d41_15 : decode jdk_65_method_121_code 15 = .ok (.newarray .byte, 2) := by decide +kernel
theorem d41_17 : decode jdk_65_method_121_code 17 = .ok (.astore_n 2, 1) := by decide +kernel
theorem d41_18 : decode jdk_65_method_121_code 18 = .ok (.aload_n 0, 1) := by decide +kernel
theorem d41_19 : decode jdk_65_method_121_code 19 = .ok (.iconst 0, 1) := by decide +kernel
theorem d41_20 : decode jdk_65_method_121_code 20 = .ok (.aload_n 2, 1) := by decide +kernel
theorem d41_21 : decode jdk_65_method_121_code 21 = .ok (.iconst 0, 1) := by decide +kernel
theorem d41_22 : decode jdk_65_method_121_code 22 = .ok (.aload_n 0, 1) := by decide +kernel
theorem d41_23 : decode jdk_65_method_121_code 23 = .ok (.arraylength, 1) := by decide +kernel
theorem d41_24 : decode jdk_65_method_121_code 24 = .ok (.iload_n 1, 1) := by decide +kernel
theorem d41_25 : decode jdk_65_method_121_code 25 = .ok (.invokestatic 304, 3) := by decide +kernel
theorem d41_28 : decode jdk_65_method_121_code 28 = .ok (.invokestatic 150, 3) := by decide +kernel
theorem d41_31 : decode jdk_65_method_121_code 31 = .ok (.aload_n 2, 1) := by decide +kernel
theorem d41_32 : decode jdk_65_method_121_code 32 = .ok (.areturn, 1) := by decide +kernel
theorem d42_0 : decode jdk_29_method_69_code 0 = .ok (.iload_n 0, 1) := by decide +kernel
theorem d42_1 : decode jdk_29_method_69_code 1 = .ok (.iload_n 1, 1) := by decide +kernel
theorem d42_2 : decode jdk_29_method_69_code 2 = .ok (.if_icmp .gt 7, 3) := by decide +kernel
theorem d42_5 : decode jdk_29_method_69_code 5 = .ok (.iload_n 0, 1) := by decide +kernel
theorem d42_6 : decode jdk_29_method_69_code 6 = .ok (.goto 4, 3) := by decide +kernel
theorem d42_9 : decode jdk_29_method_69_code 9 = .ok (.iload_n 1, 1) := by decide +kernel
theorem d42_10 : decode jdk_29_method_69_code 10 = .ok (.ireturn, 1) := by decide +kernel
theorem d43_0 : decode jdk_65_method_133_code 0 = .ok (.iload_n 1, 1) := by decide +kernel
theorem d43_1 : decode jdk_65_method_133_code 1 = .ok (.iload_n 2, 1) := by decide +kernel
theorem d43_2 : decode jdk_65_method_133_code 2 = .ok (.invokestatic 343, 3) := by decide +kernel
theorem d43_5 : decode jdk_65_method_133_code 5 = .ok (.iload_n 2, 1) := by decide +kernel
theorem d43_6 : decode jdk_65_method_133_code 6 = .ok (.iload_n 1, 1) := by decide +kernel
theorem d43_7 : decode jdk_65_method_133_code 7 = .ok (.isub, 1) := by decide +kernel
theorem d43_8 : decode jdk_65_method_133_code 8 = .ok (.istore_n 3, 1) := by decide +kernel
theorem d43_9 : decode jdk_65_method_133_code 9 = .ok (.iload_n 3, 1) := by decide +kernel
theorem d43_10 : decode jdk_65_method_133_code 10 = .ok (.newarray .byte, 2) := by decide +kernel
theorem d43_12 : decode jdk_65_method_133_code 12 = .ok (.astore 4, 2) := by decide +kernel
theorem d43_14 : decode jdk_65_method_133_code 14 = .ok (.aload_n 0, 1) := by decide +kernel
theorem d43_15 : decode jdk_65_method_133_code 15 = .ok (.iload_n 1, 1) := by decide +kernel
theorem d43_16 : decode jdk_65_method_133_code 16 = .ok (.aload 4, 2) := by decide +kernel
theorem d43_18 : decode jdk_65_method_133_code 18 = .ok (.iconst 0, 1) := by decide +kernel
theorem d43_19 : decode jdk_65_method_133_code 19 = .ok (.aload_n 0, 1) := by decide +kernel
theorem d43_20 : decode jdk_65_method_133_code 20 = .ok (.arraylength, 1) := by decide +kernel
theorem d43_21 : decode jdk_65_method_133_code 21 = .ok (.iload_n 1, 1) := by decide +kernel
theorem d43_22 : decode jdk_65_method_133_code 22 = .ok (.isub, 1) := by decide +kernel
theorem d43_23 : decode jdk_65_method_133_code 23 = .ok (.iload_n 3, 1) := by decide +kernel
theorem d43_24 : decode jdk_65_method_133_code 24 = .ok (.invokestatic 304, 3) := by decide +kernel
theorem d43_27 : decode jdk_65_method_133_code 27 = .ok (.invokestatic 150, 3) := by decide +kernel
theorem d43_30 : decode jdk_65_method_133_code 30 = .ok (.aload 4, 2) := by decide +kernel
theorem d43_32 : decode jdk_65_method_133_code 32 = .ok (.areturn, 1) := by decide +kernel
theorem d44_0 : decode jdk_65_method_131_code 0 = .ok (.iload_n 1, 1) := by decide +kernel
theorem d44_1 : decode jdk_65_method_131_code 1 = .ok (.iload_n 0, 1) := by decide +kernel
theorem d44_2 : decode jdk_65_method_131_code 2 = .ok (.if_icmp .ge 35, 3) := by decide +kernel
theorem d44_37 : decode jdk_65_method_131_code 37 = .ok (.return_, 1) := by decide +kernel
theorem pd0 : parseMethodDescriptor "()B" = some ⟨[], some .byte⟩ := by decide +kernel
theorem pd1 : parseMethodDescriptor "([B[B)Z" = some ⟨[(.array .byte), (.array .byte)], some .boolean⟩ := by decide +kernel
theorem pd2 : parseMethodDescriptor "([CIILjava/lang/Void;)V" = some ⟨[(.array .char), .int, .int, (.object "java/lang/Void")], none⟩ := by decide +kernel
theorem pd3 : parseMethodDescriptor "(I)V" = some ⟨[.int], none⟩ := by decide +kernel
theorem pd4 : parseMethodDescriptor "(Ljava/lang/String;)V" = some ⟨[(.object "java/lang/String")], none⟩ := by decide +kernel
theorem pd5 : parseMethodDescriptor "([BIB)V" = some ⟨[(.array .byte), .int, .byte], none⟩ := by decide +kernel
theorem pd6 : parseMethodDescriptor "()I" = some ⟨[], some .int⟩ := by decide +kernel
theorem pd7 : parseMethodDescriptor "(ILjava/lang/String;)V" = some ⟨[.int, (.object "java/lang/String")], none⟩ := by decide +kernel
theorem pd8 : parseMethodDescriptor "(Ljava/lang/String;)Ljava/lang/AbstractStringBuilder;" = some ⟨[(.object "java/lang/String")], some (.object "java/lang/AbstractStringBuilder")⟩ := by decide +kernel
theorem pd9 : parseMethodDescriptor "(II)V" = some ⟨[.int, .int], none⟩ := by decide +kernel
theorem pd10 : parseMethodDescriptor "(II)I" = some ⟨[.int, .int], some .int⟩ := by decide +kernel
theorem pd11 : parseMethodDescriptor "([BII)[B" = some ⟨[(.array .byte), .int, .int], some (.array .byte)⟩ := by decide +kernel
theorem pd12 : parseMethodDescriptor "()[B" = some ⟨[], some (.array .byte)⟩ := by decide +kernel
theorem pd13 : parseMethodDescriptor "()Z" = some ⟨[], some .boolean⟩ := by decide +kernel
theorem pd14 : parseMethodDescriptor "(Ljava/lang/AbstractStringBuilder;Ljava/lang/Void;)V" = some ⟨[(.object "java/lang/AbstractStringBuilder"), (.object "java/lang/Void")], none⟩ := by decide +kernel
theorem pd15 : parseMethodDescriptor "(Ljava/lang/StringBuilder;)V" = some ⟨[(.object "java/lang/StringBuilder")], none⟩ := by decide +kernel
theorem pd16 : parseMethodDescriptor "(III)I" = some ⟨[.int, .int, .int], some .int⟩ := by decide +kernel
theorem pd17 : parseMethodDescriptor "(I)I" = some ⟨[.int], some .int⟩ := by decide +kernel
theorem pd18 : parseMethodDescriptor "([BI)[B" = some ⟨[(.array .byte), .int], some (.array .byte)⟩ := by decide +kernel
theorem pd19 : parseMethodDescriptor "(Ljava/lang/String;Lcom/example/notice_to_drain/noticetodrain/drain/HookOutcome$Ending;Ljava/lang/Integer;)V" = some ⟨[(.object "java/lang/String"), (.object "com/example/notice_to_drain/noticetodrain/drain/HookOutcome$Ending"), (.object "java/lang/Integer")], none⟩ := by decide +kernel
theorem pd20 : parseMethodDescriptor "()V" = some ⟨[], none⟩ := by decide +kernel
theorem pd21 : parseMethodDescriptor "(Ljava/lang/String;)Ljava/lang/StringBuilder;" = some ⟨[(.object "java/lang/String")], some (.object "java/lang/StringBuilder")⟩ := by decide +kernel
theorem pd22 : parseMethodDescriptor "()Ljava/lang/String;" = some ⟨[], some (.object "java/lang/String")⟩ := by decide +kernel
theorem pd23 : parseMethodDescriptor "()Ljava/util/OptionalInt;" = some ⟨[], some (.object "java/util/OptionalInt")⟩ := by decide +kernel
theorem pd24 : parseMethodDescriptor "(Ljava/lang/String;)Lcom/example/notice_to_drain/noticetodrain/drain/HookOutcome;" = some ⟨[(.object "java/lang/String")], some (.object "com/example/notice_to_drain/noticetodrain/drain/HookOutcome")⟩ := by decide +kernel
theorem pd25 : parseMethodDescriptor "(Ljava/lang/Object;)Z" = some ⟨[(.object "java/lang/Object")], some .boolean⟩ := by decide +kernel
theorem pd26 : parseMethodDescriptor "([C)V" = some ⟨[(.array .char)], none⟩ := by decide +kernel
theorem pn0 : plainName "java/lang/String" = true := by first | (simp [plainName, overriddenIn]; done) | decide +kernel
theorem pn1 : plainName "java/lang/StringLatin1" = true := by first | (simp [plainName, overriddenIn]; done) | decide +kernel
theorem pn2 : plainName "java/lang/AbstractStringBuilder" = true := by first | (simp [plainName, overriddenIn]; done) | decide +kernel
theorem pn3 : plainName "java/lang/StringBuilder" = true := by first | (simp [plainName, overriddenIn]; done) | decide +kernel
theorem pn4 : plainName "java/util/Arrays" = true := by first | (simp [plainName, overriddenIn]; done) | decide +kernel
theorem pn5 : plainName "jdk/internal/util/ArraysSupport" = true := by first | (simp [plainName, overriddenIn]; done) | decide +kernel
theorem pn6 : plainName "com/example/notice_to_drain/noticetodrain/drain/HookOutcome" = true := by first | (simp [plainName, overriddenIn]; done) | decide +kernel
theorem pn7 : plainName "java/lang/Enum" = true := by first | (simp [plainName, overriddenIn]; done) | decide +kernel
theorem pn8 : plainName "java/util/OptionalInt" = true := by first | (simp [plainName, overriddenIn]; done) | decide +kernel
theorem pn9 : plainName "com/example/notice_to_drain/noticetodrain/drain/HookOutcomeUnstartedPinLaw" = true := by first | (simp [plainName, overriddenIn]; done) | decide +kernel
/-- what is said of the start -/
def Gl (Z : State) (a0 : Array Value) : Prop := (∀ d ∈ tables_1, d.before a0 Z = true) ∧ Jvm.Lit.constHeld Z "java/lang/String" 7 ∧ Jvm.Lit.compactW.before a0 Z = true ∧ Jvm.Lit.constHeld Z "com/example/notice_to_drain/noticetodrain/drain/HookOutcome" 63 ∧ Jvm.Lit.constHeld Z "com/example/notice_to_drain/noticetodrain/drain/HookOutcome" 85
/-- the String at a, coder 0, spells cs (each 0 to 255) -/
def SL (Z : State) (h : Heap) (a : Addr) (cs : List Int32) : Prop := ∃ b, Exa Z h a "java/lang/String" ∧ Fld Z h a "java/lang/String" "coder" "B" (.int 0) ∧ Fld Z h a "java/lang/String" "value" "[B" (.ref b) ∧ Av Z h b .byte cs.length (fun j => .int ((cs.getD j 0).toInt8.toInt32)) ∧ ∀ c ∈ cs, ¬ c < 0 ∧ ¬ (255 : Int32) < c
theorem SL.exa {Z : State} {h : Heap} {a : Addr} {cs : List Int32} (S : SL Z h a cs) : Exa Z h a "java/lang/String" := by obtain ⟨b, E, -⟩ := S; exact E
theorem SL.ext {Z : State} {h h' : Heap} {a : Addr} {cs : List Int32} (S : SL Z h a cs) (E : Ext h h') : SL Z h' a cs := by obtain ⟨b, r1, r2, r3, r4, r5⟩ := S; exact ⟨b, r1.ext E, r2.ext E, r3.ext E, r4.ext E, r5⟩
/-- it stands where nothing that was there is written -/
theorem SL.keep {Z : State} {h h' : Heap} {a : Addr} {cs : List Int32} {ws : List Addr} (S : SL Z h a cs) (K : Keep h h' ws) (q : ∀ x ∈ ws, h.size ≤ x) : SL Z h' a cs := by
  obtain ⟨b, r1, r2, r3, r4, r5⟩ := S
  have n1 : a ∉ ws := fun hm => Nat.not_lt.mpr (q a hm) r1.lt
  have n2 : b ∉ ws := fun hm => Nat.not_lt.mpr (q b hm) r4.lt
  exact ⟨b, r1.keep K, r2.keep K n1, r3.keep K n1, r4.keep K n2, r5⟩
theorem SL.len {Z : State} {h : Heap} {a : Addr} {cs : List Int32} (S : SL Z h a cs) : cs.length < 2 ^ 31 := by obtain ⟨b, -, -, -, ⟨_, _, _, r, _⟩, -⟩ := S; exact r
theorem SL.of {Z : State} {h : Heap} {a t : Addr} {kb : ClassId} {cs : List Int32} {n : Nat} (hn : cs.length = n) (h31 : n < 2 ^ 31) (E : Exa Z h a "java/lang/String") (F1 : Fld Z h a "java/lang/String" "coder" "B" (.int 0)) (F2 : Fld Z h a "java/lang/String" "value" "[B" (.ref t)) (A : Arv Z h t kb .byte (Int32.ofNat n) ((cs.map fun c => c.toInt8.toInt32).map Value.int) (.int 0)) (hp : ∀ c ∈ cs, ¬ c < 0 ∧ ¬ (255 : Int32) < c) : SL Z h a cs := by
  subst hn
  refine ⟨t, E, F1, F2, (Av.of_arv A (Int32.toNatClampNeg_ofNat_of_lt h31)).congr (fun j hj => ?_), hp⟩
  simp [List.getD, hj]
/-- what is said of the String class -/
def LG (Z : State) (cz : Int32) (fm : Value) : Prop := Sta Z Z.heap "java/lang/String" "COMPACT_STRINGS" "Z" (.int cz) ∧ ¬ cz = 0 ∧ Sta Z Z.heap "jdk/internal/util/Preconditions" "SIOOBE_FORMATTER" "Ljava/util/function/BiFunction;" fm ∧ fm.isRef = true
theorem byte_of {c : Int32} (h : ¬ c < 0 ∧ ¬ (255 : Int32) < c) : ∃ k : Fin 256, c = Int32.ofNat k.val := by
  obtain ⟨h1, h2⟩ := h
  rw [Int32.lt_iff_toInt_lt] at h1 h2
  have e0 : (0 : Int32).toInt = 0 := rfl
  have e1 : (255 : Int32).toInt = 255 := rfl
  refine ⟨⟨c.toInt.toNat, by omega⟩, ?_⟩
  apply Int32.toInt_inj.mp
  rw [Int32.toInt_ofNat_of_lt (by show c.toInt.toNat < 2 ^ 31; omega)]
  show c.toInt = (c.toInt.toNat : Int)
  omega
theorem byte_back {c : Int32} (h : ¬ c < 0 ∧ ¬ (255 : Int32) < c) : nar .char ((c.toInt8.toInt32 &&& (255 : Int32)).toUInt32.toUInt16.toUInt32.toInt32) = c := by
  have t : ∀ k : Fin 256, nar .char (((Int32.ofNat k.val).toInt8.toInt32 &&& (255 : Int32)).toUInt32.toUInt16.toUInt32.toInt32) = Int32.ofNat k.val := by decide +kernel
  obtain ⟨k, rfl⟩ := byte_of h
  exact t k
theorem byte_nar {c : Int32} (h : ¬ c < 0 ∧ ¬ (255 : Int32) < c) : nar .char c = c := by
  have t : ∀ k : Fin 256, nar .char (Int32.ofNat k.val) = Int32.ofNat k.val := by decide +kernel
  obtain ⟨k, rfl⟩ := byte_of h
  exact t k
theorem shr0 (x : Int32) : x >>> ((0 : Int32) &&& 31) = x := by
  apply Int32.toBitVec_inj.mp
  simp
/-- r is the answer on P -/
def AN (P : Prop) (r : Int32) : Prop := (P ∧ r = 1) ∨ (¬ P ∧ r = 0)
theorem AN.uniq {P : Prop} {r s : Int32} (h1 : AN P r) (h2 : AN P s) : r = s := by
  rcases h1 with ⟨p, rfl⟩ | ⟨p, rfl⟩ <;> rcases h2 with ⟨q, rfl⟩ | ⟨q, rfl⟩ <;> first | rfl | exact absurd p q | exact absurd q p
abbrev rmL0 : Room := { frames := 0, cells := 0, slots := 0, locals := 0 }
abbrev rmL1 : Room := { frames := 1, cells := 0, slots := 0, locals := 16 }
abbrev rmL2 : Room := { frames := 2, cells := 0, slots := 0, locals := 32 }
abbrev rmL3 : Room := { frames := 3, cells := 0, slots := 0, locals := 48 }
set_option maxRecDepth 65536 in
set_option maxHeartbeats 40000000 in
theorem c_coder (l : Launch) (Z : State) (a0 : Array Value) (G : Gl Z a0) (cz : Int32) (fm : Value) (LG0 : LG Z cz fm) (h0 : Heap) (n0 : Nat) (X0 : Ext Z.heap h0) (a : Addr) (F : Fld Z h0 a "java/lang/String" "coder" "B" (.int 0)) :
    Ctr l Z (⟨"java/lang/String", "coder", "()B"⟩ : MethodName) jdk_42_method_152_code 1 (some .byte) rmL0 #[(.ref a)] h0 n0 (fun v h => h0 = h ∧ v = some (.int 0)) := by
  have hw := G.1
  obtain ⟨S0, hcz, SF, hfm⟩ := LG0
  refine Ctr.of (n1 := n0) #[.val (.ref a)] (plainFor_of_name pn0) (fun m => by first | (simp [entryFrame, mkF, argsToLocals, Value.category, maxLocals]; done) | rfl) ?_
  intro p e s m below meth c C
  refine g_gets C d24_0 (host := "") (Or.inl (wd23 hw)) Via.refl (S0.ext X0) (q := 3) rfl ?_
  refine g_if_eq C d24_3 (q' := 13) (q := 6) (by decide) (by decide) rfl (fun hy => absurd hy hcz) (fun hn => ?_)
  refine g_aloadN C d24_6 (v := (.ref a)) rfl rfl (q := 7) rfl ?_
  refine g_getf C d24_7 (host := "") (Or.inl (wd22 hw)) Via.refl F (q := 10) rfl ?_
  refine g_goto C d24_10 (q := 14) (by decide) (by decide) ?_
  refine g_nreturn C d24_14 (by simp) (z := 0) rfl (Nat.le_refl _) (by decide) (by decide) ⟨rfl, rfl⟩
set_option maxRecDepth 65536 in
set_option maxHeartbeats 40000000 in
theorem c_len (l : Launch) (Z : State) (a0 : Array Value) (G : Gl Z a0) (cz : Int32) (fm : Value) (LG0 : LG Z cz fm) (h0 : Heap) (n0 : Nat) (X0 : Ext Z.heap h0) (a : Addr) (cs : List Int32) (S : SL Z h0 a cs) :
    Ctr l Z (⟨"java/lang/String", "length", "()I"⟩ : MethodName) jdk_42_method_54_code 1 (some .int) rmL1 #[(.ref a)] h0 n0 (fun v h => h0 = h ∧ v = some (.int (Int32.ofNat cs.length))) := by
  have hw := G.1
  obtain ⟨b, E, F1, F2, B, hp⟩ := S
  refine Ctr.of (n1 := n0) #[.val (.ref a)] (plainFor_of_name pn0) (fun m => by first | (simp [entryFrame, mkF, argsToLocals, Value.category, maxLocals]; done) | rfl) ?_
  intro p e s m below meth c C
  refine g_aloadN C d23_0 (v := (.ref a)) rfl rfl (q := 1) rfl ?_
  refine g_getf C d23_1 (host := "") (Or.inl (wd21 hw)) Via.refl F2 (q := 4) rfl ?_
  refine g_alen C d23_4 B (z := (Int32.ofNat cs.length)) rfl (q := 5) rfl ?_
  refine g_aloadN C d23_5 (v := (.ref a)) rfl rfl (q := 6) rfl ?_
  refine g_callV C (W := 1) (argsL := []) (rest := [(.int (Int32.ofNat cs.length))]) (a := a) d23_6 (wd147 hw) (wd148 hw) (wd150 hw) (wd149 hw) (by decide) (nf_of C (wd150 hw)) E (Ctr.bk (c_coder l Z a0 G cz fm LG0 h0 n0 X0 a F1) C (wd151 hw) (wd3 hw) (by decide) (by decide)) (by decide) (by decide) rfl (lenOf pd0 rfl) rfl rfl (q := 9) rfl (fun v1 h1 hQ1 => ?_)
  obtain ⟨rfl, rfl⟩ := hQ1
  refine ⟨[(.int (0 : Int32)), (.int (Int32.ofNat cs.length))], rfl, ?_⟩
  refine g_ishr C d23_9 (q := 10) rfl ?_
  rw [shr0]
  refine g_ireturn C d23_10 (Nat.le_refl _) (by decide) (by decide) ⟨rfl, rfl⟩
theorem ofNat_inj' {a b : Nat} (h1 : a < 2 ^ 31) (h2 : b < 2 ^ 31) (q : Int32.ofNat a = Int32.ofNat b) : a = b := by
  have e := congrArg Int32.toInt q
  rw [Int32.toInt_ofNat_of_lt h1, Int32.toInt_ofNat_of_lt h2] at e
  omega
theorem byte_inj {x y : Int32} (h1 : ¬ x < 0 ∧ ¬ (255 : Int32) < x) (h2 : ¬ y < 0 ∧ ¬ (255 : Int32) < y) (q : x.toInt8.toInt32 = y.toInt8.toInt32) : x = y := by
  have e := byte_back h1
  rw [q, byte_back h2] at e
  exact e.symm
theorem list_eq_of {cs ds : List Int32} (hl : cs.length = ds.length) (h1 : ∀ c ∈ cs, ¬ c < 0 ∧ ¬ (255 : Int32) < c) (h2 : ∀ c ∈ ds, ¬ c < 0 ∧ ¬ (255 : Int32) < c) (q : ∀ j, j < cs.length → (cs.getD j 0).toInt8.toInt32 = (ds.getD j 0).toInt8.toInt32) : cs = ds := by
  refine List.ext_getElem hl (fun j hj hj' => ?_)
  have e := q j hj
  simp only [List.getD, hj, hj', getElem?_pos, Option.getD_some] at e
  exact byte_inj (h1 _ (List.getElem_mem hj)) (h2 _ (List.getElem_mem hj')) e
set_option maxRecDepth 65536 in
set_option maxHeartbeats 40000000 in
theorem loopE {p : Program} {e : Env} {s : State} {m : MethodId} {args : Array Value} {below : List Frame} {meth : Method} {c : Code} (l : Launch) (Z : State) (a0 : Array Value) (G : Gl Z a0) (b1 b2 : Addr) (N M : Nat) (F D : Nat → Int32) (h0 : Heap) (n0 : Nat) (A1 : Av Z h0 b1 .byte N (fun j => .int (F j))) (A2 : Av Z h0 b2 .byte M (fun j => .int (D j))) (hl : N = M) (C : Cx p s m meth c Z "java/lang/StringLatin1" "equals" jdk_43_method_13_code 3 (some .boolean)) (d i : Nat) (hd : d = N - i) (hiN : i ≤ N) (hs : ∀ j, j < i → F j = D j) :
    Go p l e rmL0 s m args below meth c (FinN s below rmL0 n0 (fun v h => h0 = h ∧ ∃ r, v = some (.int r) ∧ AN (N = M ∧ ∀ j, j < N → F j = D j) r)) n0 h0 0 0 9 #[.val (.ref b1), .val (.ref b2), .val (.int (Int32.ofNat i))] [] := by
  have hw := G.1
  have hN : N < 2 ^ 31 := by obtain ⟨_, _, _, r, _⟩ := A1; exact r
  induction d generalizing i with
  | zero =>
    have ei : i = N := by omega
    subst ei
    refine g_iloadN C d37_9 (v := (Int32.ofNat i)) rfl (q := 10) rfl ?_
    refine g_aloadN C d37_10 (v := (.ref b1)) rfl rfl (q := 11) rfl ?_
    refine g_alen C d37_11 A1 (z := (Int32.ofNat i)) rfl (q := 12) rfl ?_
    refine g_icmp_ge C d37_12 (q' := 32) (q := 15) (by decide) (by decide) rfl (fun hy => ?_) (fun hn => absurd hn (by rw [Int32.not_lt]; exact Int32.le_refl _))
    refine g_iconst C d37_32 (z := (1 : Int32)) rfl (q := 33) rfl ?_
    refine g_nreturn C d37_33 (by simp) (z := 1) rfl (Nat.le_refl _) (by decide) (by decide) ⟨rfl, _, rfl, Or.inl ⟨⟨hl, hs⟩, rfl⟩⟩
  | succ d ih =>
    have hi : i < N := by omega
    have hlt : Int32.ofNat i < Int32.ofNat N := by rw [Int32.lt_iff_toInt_lt, Int32.toInt_ofNat_of_lt (by omega), Int32.toInt_ofNat_of_lt (by omega)]; omega
    refine g_iloadN C d37_9 (v := (Int32.ofNat i)) rfl (q := 10) rfl ?_
    refine g_aloadN C d37_10 (v := (.ref b1)) rfl rfl (q := 11) rfl ?_
    refine g_alen C d37_11 A1 (z := (Int32.ofNat N)) rfl (q := 12) rfl ?_
    refine g_icmp_ge C d37_12 (q' := 32) (q := 15) (by decide) (by decide) rfl (fun hy => absurd hlt hy) (fun hn => ?_)
    refine g_aloadN C d37_15 (v := (.ref b1)) rfl rfl (q := 16) rfl ?_
    refine g_iloadN C d37_16 (v := (Int32.ofNat i)) rfl (q := 17) rfl ?_
    refine g_baload C d37_17 (i := i) A1 hi rfl rfl (q := 18) rfl ?_
    refine g_aloadN C d37_18 (v := (.ref b2)) rfl rfl (q := 19) rfl ?_
    refine g_iloadN C d37_19 (v := (Int32.ofNat i)) rfl (q := 20) rfl ?_
    refine g_baload C d37_20 (i := i) A2 (by omega) rfl rfl (q := 21) rfl ?_
    refine g_icmp_eq C d37_21 (q' := 26) (q := 24) (by decide) (by decide) rfl (fun e1 => ?_) (fun e1 => ?_)
    ·
      refine g_iinc C d37_26 rfl (L' := #[.val (.ref b1), .val (.ref b2), .val (.int ((Int32.ofNat i) + (1 : Int32)))]) rfl (q := 29) rfl ?_
      refine g_goto C d37_29 (q := 9) (by decide) (by decide) ?_
      rw [show Int32.ofNat i + 1 = Int32.ofNat (i + 1) from by rw [Int32.ofNat_add]; rfl]
      exact ih (i + 1) (by omega) (by omega) (fun j hj => by
        by_cases q : j = i
        · rw [q]; exact e1
        · exact hs j (by omega))
    ·
      refine g_iconst C d37_24 (z := (0 : Int32)) rfl (q := 25) rfl ?_
      refine g_nreturn C d37_25 (by simp) (z := 0) rfl (Nat.le_refl _) (by decide) (by decide) ⟨rfl, _, rfl, Or.inr ⟨fun q => e1 (q.2 i hi), rfl⟩⟩
set_option maxRecDepth 65536 in
set_option maxHeartbeats 40000000 in
theorem c_eqL1 (l : Launch) (Z : State) (a0 : Array Value) (G : Gl Z a0) (b1 b2 : Addr) (N M : Nat) (F D : Nat → Int32) (h0 : Heap) (n0 : Nat) (A1 : Av Z h0 b1 .byte N (fun j => .int (F j))) (A2 : Av Z h0 b2 .byte M (fun j => .int (D j))) :
    Ctr l Z (⟨"java/lang/StringLatin1", "equals", "([B[B)Z"⟩ : MethodName) jdk_43_method_13_code 3 (some .boolean) rmL0 #[(.ref b1), (.ref b2)] h0 n0 (fun v h => h0 = h ∧ ∃ r, v = some (.int r) ∧ AN (N = M ∧ ∀ j, j < N → F j = D j) r) := by
  have hw := G.1
  have hN : N < 2 ^ 31 := by obtain ⟨_, _, _, r, _⟩ := A1; exact r
  have hM : M < 2 ^ 31 := by obtain ⟨_, _, _, r, _⟩ := A2; exact r
  refine Ctr.of (n1 := n0) #[.val (.ref b1), .val (.ref b2), .unset] (plainFor_of_name pn1) (fun m => by first | (simp [entryFrame, mkF, argsToLocals, Value.category, maxLocals]; done) | rfl) ?_
  intro p e s m below meth c C
  refine g_aloadN C d37_0 (v := (.ref b1)) rfl rfl (q := 1) rfl ?_
  refine g_alen C d37_1 A1 (z := (Int32.ofNat N)) rfl (q := 2) rfl ?_
  refine g_aloadN C d37_2 (v := (.ref b2)) rfl rfl (q := 3) rfl ?_
  refine g_alen C d37_3 A2 (z := (Int32.ofNat M)) rfl (q := 4) rfl ?_
  refine g_icmp_ne C d37_4 (q' := 34) (q := 7) (by decide) (by decide) rfl (fun e1 => ?_) (fun e1 => ?_)
  ·
    refine g_iconst C d37_34 (z := (0 : Int32)) rfl (q := 35) rfl ?_
    refine g_nreturn C d37_35 (by simp) (z := 0) rfl (Nat.le_refl _) (by decide) (by decide) ⟨rfl, _, rfl, Or.inr ⟨fun q => e1 (by rw [q.1]), rfl⟩⟩
  ·
    refine g_iconst C d37_7 (z := (0 : Int32)) rfl (q := 8) rfl ?_
    refine g_istoreN C d37_8 (L' := #[.val (.ref b1), .val (.ref b2), .val (.int (0 : Int32))]) rfl (q := 9) rfl ?_
    exact loopE l Z a0 G b1 b2 N M F D h0 n0 A1 A2 (ofNat_inj' hN hM e1) C N 0 (by omega) (by omega) (fun j hj => absurd hj (by omega))
set_option maxRecDepth 65536 in
set_option maxHeartbeats 40000000 in
theorem c_equals (l : Launch) (Z : State) (a0 : Array Value) (G : Gl Z a0) (cz : Int32) (S0 : Sta Z Z.heap "java/lang/String" "COMPACT_STRINGS" "Z" (.int cz)) (hcz : ¬ cz = 0) (a b : Addr) (cs ds : List Int32) (h0 : Heap) (n0 : Nat) (X0 : Ext Z.heap h0) (S1 : SL Z h0 a cs) (S2 : SL Z h0 b ds) (nab : ¬ a = b) :
    Ctr l Z (⟨"java/lang/String", "equals", "(Ljava/lang/Object;)Z"⟩ : MethodName) jdk_42_method_66_code 3 (some .boolean) rmL1 #[(.ref a), (.ref b)] h0 n0 (fun v h => h0 = h ∧ ∃ r, v = some (.int r) ∧ AN (cs = ds) r) := by
  have hw := G.1
  obtain ⟨b1, E1, C1, V1, B1, p1⟩ := S1
  obtain ⟨b2, E2, C2, V2, B2, p2⟩ := S2
  refine Ctr.of (n1 := n0) #[.val (.ref a), .val (.ref b), .unset] (plainFor_of_name pn0) (fun m => by first | (simp [entryFrame, mkF, argsToLocals, Value.category, maxLocals]; done) | rfl) ?_
  intro p e s m below meth c C
  refine g_aloadN C d10_0 (v := (.ref a)) rfl rfl (q := 1) rfl ?_
  refine g_aloadN C d10_1 (v := (.ref b)) rfl rfl (q := 2) rfl ?_
  refine g_acmp_ne C d10_2 rfl rfl (q' := 7) (q := 5) (by decide) (by decide) rfl (fun hy => ?_) (fun hn_ => absurd (Value.ref.inj hn_) nab)
  refine g_aloadN C d10_7 (v := (.ref b)) rfl rfl (q := 8) rfl ?_
  refine g_instY C d10_8 (wd223 hw) (Ins.self E2) (q := 11) rfl ?_
  refine g_if_eq C d10_11 (q' := 54) (q := 14) (by decide) (by decide) rfl (fun hy => absurd hy (by decide)) (fun hn => ?_)
  refine g_aloadN C d10_14 (v := (.ref b)) rfl rfl (q := 15) rfl ?_
  refine g_castY C d10_15 (wd223 hw) (Ins.self E2) (q := 18) rfl ?_
  refine g_astoreN C d10_18 rfl (L' := #[.val (.ref a), .val (.ref b), .val (.ref b)]) rfl (q := 19) rfl ?_
  refine g_gets C d10_19 (host := "") (Or.inl (wd23 hw)) Via.refl (S0.ext X0) (q := 22) rfl ?_
  refine g_if_eq C d10_22 (q' := 36) (q := 25) (by decide) (by decide) rfl (fun hy => absurd hy hcz) (fun hn => ?_)
  refine g_aloadN C d10_25 (v := (.ref a)) rfl rfl (q := 26) rfl ?_
  refine g_getf C d10_26 (host := "") (Or.inl (wd22 hw)) Via.refl C1 (q := 29) rfl ?_
  refine g_aloadN C d10_29 (v := (.ref b)) rfl rfl (q := 30) rfl ?_
  refine g_getf C d10_30 (host := "") (Or.inl (wd22 hw)) Via.refl C2 (q := 33) rfl ?_
  refine g_icmp_ne C d10_33 (q' := 54) (q := 36) (by decide) (by decide) rfl (fun hy => absurd rfl hy) (fun hn => ?_)
  refine g_aloadN C d10_36 (v := (.ref a)) rfl rfl (q := 37) rfl ?_
  refine g_getf C d10_37 (host := "") (Or.inl (wd21 hw)) Via.refl V1 (q := 40) rfl ?_
  refine g_aloadN C d10_40 (v := (.ref b)) rfl rfl (q := 41) rfl ?_
  refine g_getf C d10_41 (host := "") (Or.inl (wd21 hw)) Via.refl V2 (q := 44) rfl ?_
  refine g_callS C (W := 0) (argsL := [(.ref b1), (.ref b2)]) (rest := []) d10_44 (wd224 hw) (wd225 hw) (wd226 hw) (wd227 hw) (by decide) (Ctr.bk (c_eqL1 l Z a0 G b1 b2 _ _ (fun j => (cs.getD j 0).toInt8.toInt32) (fun j => (ds.getD j 0).toInt8.toInt32) h0 n0 B1 B2) C (wd227 hw) (wd226 hw) (by decide) (by decide)) (by decide) (by decide) rfl (lenOf pd1 rfl) rfl rfl (q := 47) rfl (fun v1 h1 hQ1 => ?_)
  obtain ⟨rfl, r, rfl, hA⟩ := hQ1
  refine ⟨[(.int r)], rfl, ?_⟩
  have iff : (cs.length = ds.length ∧ ∀ j, j < cs.length → (cs.getD j 0).toInt8.toInt32 = (ds.getD j 0).toInt8.toInt32) ↔ cs = ds := ⟨fun q => list_eq_of q.1 p1 p2 q.2, fun q => by rw [q]; exact ⟨rfl, fun _ _ => rfl⟩⟩
  rcases hA with ⟨q, rfl⟩ | ⟨q, rfl⟩
  ·
    refine g_if_eq C d10_47 (q' := 54) (q := 50) (by decide) (by decide) rfl (fun hy => absurd hy (by decide)) (fun hn => ?_)
    refine g_iconst C d10_50 (z := (1 : Int32)) rfl (q := 51) rfl ?_
    refine g_goto C d10_51 (q := 55) (by decide) (by decide) ?_
    refine g_nreturn C d10_55 (by simp) (z := 1) rfl (Nat.le_refl _) (by decide) (by decide) ⟨rfl, _, rfl, Or.inl ⟨iff.mp q, rfl⟩⟩
  ·
    refine g_if_eq C d10_47 (q' := 54) (q := 50) (by decide) (by decide) rfl (fun hy => ?_) (fun hn => absurd rfl hn)
    refine g_iconst C d10_54 (z := (0 : Int32)) rfl (q := 55) rfl ?_
    refine g_nreturn C d10_55 (by simp) (z := 0) rfl (Nat.le_refl _) (by decide) (by decide) ⟨rfl, _, rfl, Or.inr ⟨fun q' => q (iff.mpr q'), rfl⟩⟩
set_option maxRecDepth 65536 in
set_option maxHeartbeats 40000000 in
theorem c_equalsR (l : Launch) (Z : State) (a0 : Array Value) (G : Gl Z a0) (a : Addr) (h0 : Heap) (n0 : Nat) :
    Ctr l Z (⟨"java/lang/String", "equals", "(Ljava/lang/Object;)Z"⟩ : MethodName) jdk_42_method_66_code 3 (some .boolean) rmL1 #[(.ref a), (.ref a)] h0 n0 (fun v h => h0 = h ∧ v = some (.int 1)) := by
  have hw := G.1
  refine Ctr.of (n1 := n0) #[.val (.ref a), .val (.ref a), .unset] (plainFor_of_name pn0) (fun m => by first | (simp [entryFrame, mkF, argsToLocals, Value.category, maxLocals]; done) | rfl) ?_
  intro p e s m below meth c C
  refine g_aloadN C d10_0 (v := (.ref a)) rfl rfl (q := 1) rfl ?_
  refine g_aloadN C d10_1 (v := (.ref a)) rfl rfl (q := 2) rfl ?_
  refine g_acmp_ne C d10_2 rfl rfl (q' := 7) (q := 5) (by decide) (by decide) rfl (fun hy => absurd rfl hy) (fun hn => ?_)
  refine g_iconst C d10_5 (z := (1 : Int32)) rfl (q := 6) rfl ?_
  refine g_nreturn C d10_6 (by simp) (z := 1) rfl (Nat.le_refl _) (by decide) (by decide) ⟨rfl, rfl⟩
theorem and255_chars (x : Int32) : ¬ nar .char ((x &&& (255 : Int32)).toUInt32.toUInt16.toUInt32.toInt32) < 0 ∧ ¬ (255 : Int32) < nar .char ((x &&& (255 : Int32)).toUInt32.toUInt16.toUInt32.toInt32) := by
  have t : ∀ k : Fin 256, ¬ nar .char ((Int32.ofNat k.val).toUInt32.toUInt16.toUInt32.toInt32) < 0 ∧ ¬ (255 : Int32) < nar .char ((Int32.ofNat k.val).toUInt32.toUInt16.toUInt32.toInt32) := by decide +kernel
  have h : (x &&& 255).toBitVec.toNat < 256 := by
    simp only [Int32.toBitVec_and, BitVec.toNat_and]
    exact Nat.lt_succ_of_le Nat.and_le_right
  have e : (x &&& 255) = Int32.ofNat (x &&& 255).toBitVec.toNat := by
    apply Int32.toBitVec_inj.mp
    show _ = BitVec.ofNat 32 _
    rw [BitVec.ofNat_toNat]; simp
  rw [e]
  exact t ⟨_, h⟩
/-- new String(char[]) of Latin-1 chars, as a callee that pays -/
theorem bk_str {p : Program} {l : Launch} {e : Env} {R : Room} {s : State} {m : MethodId} {args : Array Value} {below : List Frame} {meth : Method} {c : Code} {Z : State} {a0 : Array Value} {h : Heap} {own nm : String} {code : ByteArray} {ml W : Nat} {ret : Option FieldType} (C : Cx p s m meth c Z own nm code ml ret) (hw : ∀ d ∈ tables_1, d.before a0 Z = true) (wi : (Jvm.Cond.instantiable "java/lang/String" 4).before a0 Z = true)
    {x b : Addr} {f : Nat → Value} {cs : List Int32} {v0 c0 : Value} {z : Int32} {n n0 : Nat} (hx0 : n0 ≤ x) (hh0 : n0 ≤ h.size) (E : Exa Z h x "java/lang/String") (V : Fld Z h x "java/lang/String" "value" "[B" v0) (K0 : Fld Z h x "java/lang/String" "coder" "B" c0) (A : Av Z h b .char n f) (hf : ∀ j, j < n → f j = (cs.map Value.int).getD j (.int 0)) (S : Sta Z h "java/lang/String" "COMPACT_STRINGS" "Z" (.int z)) (hz : ¬ z = 0)
    (hn : cs.length = n) (l0 : 0 < n) (l2 : n ≤ 4000) (hp : ∀ c ∈ cs, ¬ c < 0 ∧ ¬ (255 : Int32) < c) (hfr : 4 ≤ R.frames) (hlo : W + 65 ≤ R.locals) :
    BK l R p e below s args (⟨"java/lang/String", "<init>", "([C)V"⟩ : MethodName) 3 W #[.ref x, .ref b] h 1 n n0 (fun v h' => v = none ∧ Keep h h' [x] ∧ Exa Z h' x "java/lang/String" ∧ Fld Z h' x "java/lang/String" "coder" "B" (.int 0) ∧ ∃ (t : Addr) (kb : ClassId), n0 ≤ t ∧ h.size ≤ t ∧ ¬ t = x ∧ Fld Z h' x "java/lang/String" "value" "[B" (.ref t) ∧ Arv Z h' t kb .byte (Int32.ofNat n) ((cs.map fun c => c.toInt8.toInt32).map Value.int) (.int 0)) := by
  have hws : ∀ d ∈ StrChars.Road.words, d.before a0 Z = true := fun d hd => hw d ((by decide +kernel : ∀ d ∈ StrChars.Road.words, d ∈ tables_1) d hd)
  obtain ⟨kA, K⟩ := A.arv hf (fun j hj => by
    have hj' : j < cs.length := by omega
    have e1 : (cs.map Value.int).getD j (.int 0) = .int cs[j] := by simp [List.getD, hj']
    rw [e1]
    have q := hp _ (List.getElem_mem hj')
    have q1 := q.1; have q2 := q.2
    rw [Int32.lt_iff_toInt_lt] at q1 q2
    have e0 : (0 : Int32).toInt = 0 := rfl
    have e2 : (255 : Int32).toInt = 255 := rfl
    have e3 : (65535 : Int32).toInt = 65535 := rfl
    show (decide (0 ≤ cs[j]) && decide (cs[j] ≤ 65535)) = true
    rw [Bool.and_eq_true, decide_eq_true_eq, decide_eq_true_eq, Int32.le_iff_toInt_le, Int32.le_iff_toInt_le]
    omega)
  refine Back.mono (StrChars.Road.backV C.2.2.2.2.1 hws (kI := 4) wi (bs := cs.map fun c => c.toInt8.toInt32) hx0 hh0 E V K0 K S hz hn rfl l0 l2 hp rfl hfr hlo) (fun _ _ q => q) (fun P a v B _ hq => ?_)
  obtain ⟨L, ⟨q1, q2, q3, q4, q5, t, kb, q6, q7, q8, q9, q10⟩, hl, hc, hs⟩ := hq
  exact ⟨L, ⟨⟨q1, q3, q4, q5, t, kb, q6, q7, q8, q9, q10⟩, q2⟩, hl, hc, hs⟩
abbrev rmI4 : Room := { frames := 1, cells := 2, slots := 4, locals := 16 }
abbrev rmI1 : Room := { frames := 2, cells := 2, slots := 4, locals := 48 }
set_option maxRecDepth 65536 in
set_option maxHeartbeats 40000000 in
theorem c_init4e (l : Launch) (Z : State) (a0 : Array Value) (G : Gl Z a0) (a b : Addr) (h0 : Heap) (n0 : Nat) (Z0 : n0 ≤ h0.size) (ga : n0 ≤ a) (X0 : Ext Z.heap h0) (E0 : Exa Z h0 a "java/lang/String") (o1 o2 : Value) (V0 : Fld Z h0 a "java/lang/String" "value" "[B" o1) (K0 : Fld Z h0 a "java/lang/String" "coder" "B" o2) :
    CtrW l Z (⟨"java/lang/String", "<init>", "([CIILjava/lang/Void;)V"⟩ : MethodName) jdk_42_method_149_code 6 none rmI4 #[(.ref a), (.ref b), (.int 0), (.int 0), .null] h0 n0 (fun vm => IB Z vm []) (fun v vm h => v = none ∧ Keep h0 h [a] ∧ SL Z h a [] ∧ IB Z vm [""]) := by
  have hw := G.1
  have wS : ∀ a ∈ Bundle.stringAtoms, a.before a0 Z = true := fun d hd => hw d ((by decide +kernel : ∀ d ∈ Bundle.stringAtoms, d ∈ tables_1) d hd)
  refine CtrW.of (n1 := h0.size) #[.val (.ref a), .val (.ref b), .val (.int 0), .val (.int 0), .val .null, .unset] (plainFor_of_name pn0) (fun m => by first | (simp [entryFrame, mkF, argsToLocals, Value.category, maxLocals]; done) | rfl) ?_
  intro p e s0 vm0 m below meth c C hs0 hP0 Sw
  refine g_aloadN C d2_0 (v := (.ref a)) rfl rfl (q := 1) rfl ?_
  refine g_initO C d2_1 (wd12 hw) (wd13 hw) (wd14 hw) rfl (by decide) (W := 0) rfl (by decide) (q := 4) rfl ?_
  refine g_iloadN C d2_4 (v := 0) rfl (q := 5) rfl ?_
  refine g_if_ne C d2_5 (q' := 27) (q := 8) (by decide) (by decide) rfl (fun hy => absurd rfl hy) (fun hn => ?_)
  refine g_aloadN C d2_8 (v := (.ref a)) rfl rfl (q := 9) rfl ?_
  refine g_ldcS C Sw d2_9 (wd15 hw) wS (fun b cl hb => by rw [hs0]; exact X0.2 b cl hb) (by rw [hs0]; exact Nat.le_refl _) hP0 (by simp) G.2.1 G.2.2.1 (vs := []) (z := 0) ⟨by simp, rfl⟩ (by decide) rfl (nn := 0) (by decide) (by decide) (by decide) (by decide) (q := 11) rfl (fun ae vm1 h1 be kb Ee C1 Sw1 I1 Lt Ea Fco Fva Ar => ?_)
  refine g_getf C1 d2_11 (host := "") (Or.inl (wd21 hw)) Via.refl Fva (q := 14) rfl ?_
  refine Go.low Z0 ?_
  have E1 := E0.ext Ee
  have V1 := V0.ext Ee
  have K1 := K0.ext Ee
  have Ab : Av Z h1 be .byte 0 (fun _ => .int 0) := (Av.of_arv (N := 0) Ar rfl).congr (fun j hj => absurd hj (Nat.not_lt_zero _))
  have nb := Ab.ne_exa E1 (wd2 hw)
  refine g_putf C1 d2_14 (host := "") (Or.inl (wd21 hw)) Via.refl V1 E1 (Or.inr ⟨(wd17 hw), rfl, rfl⟩) (wd2 hw) (ty := (.array .byte)) (by decide) rfl rfl ga (q := 17) rfl (fun h2 W2 => ?_)
  have E2 := E1.wr W2
  have V2 := V1.same W2
  have K2 := K1.other W2 (Or.inr (slot_ne (Or.inr (wd18 hw)) (Or.inr (wd17 hw)) (by decide) (t := .byte) (t' := .array .byte) (by decide) (by decide)))
  refine g_aloadN C1 d2_17 (v := (.ref a)) rfl rfl (q := 18) rfl ?_
  refine g_ldcA C1 d2_18 (wd15 hw) Lt (q := 20) rfl ?_
  refine g_getf C1 d2_20 (host := "") (Or.inl (wd22 hw)) Via.refl (Fco.other W2 (Or.inr (slot_ne (Or.inr (wd18 hw)) (Or.inr (wd17 hw)) (by decide) (t := .byte) (t' := .array .byte) (by decide) (by decide)))) (q := 23) rfl ?_
  refine g_putf C1 d2_23 (host := "") (Or.inl (wd22 hw)) Via.refl K2 E2 (Or.inr ⟨(wd18 hw), rfl, rfl⟩) (wd2 hw) (ty := .byte) (by decide) rfl rfl ga (q := 26) rfl (fun h3 W3 => ?_)
  have E3 := E2.wr W3
  have V3 := V2.other W3 (Or.inr (slot_ne (Or.inr (wd17 hw)) (Or.inr (wd18 hw)) (by decide) (t := .array .byte) (t' := .byte) (by decide) (by decide)))
  have K3 := K2.same W3
  have A3 := (Ab.other W2 nb).other W3 nb
  have S3 : SL Z h3 a [] := ⟨be, E3, K3, V3, A3.congr (fun j hj => absurd hj (by simp)), fun c hc => by simp at hc⟩
  refine g_returnW C1 (Sw1.mono (by rw [W3.size, W2.size]; exact Nat.le_refl _)) d2_26 (Nat.le_refl _) (by decide) (by decide) (fun vm' hW => ⟨rfl, (((Ext.kp Ee [a]).wr W2 (Or.inl (by simp))).wr W3 (Or.inl (by simp))), S3, IB.warm I1 hW⟩)
set_option maxRecDepth 65536 in
set_option maxHeartbeats 40000000 in
theorem c_init1e (l : Launch) (Z : State) (a0 : Array Value) (G : Gl Z a0) (a b : Addr) (h0 : Heap) (n0 : Nat) (Z0 : n0 ≤ h0.size) (ga : n0 ≤ a) (X0 : Ext Z.heap h0) (E0 : Exa Z h0 a "java/lang/String") (o1 o2 : Value) (V0 : Fld Z h0 a "java/lang/String" "value" "[B" o1) (K0 : Fld Z h0 a "java/lang/String" "coder" "B" o2) (f0 : Nat → Value) (B0 : Av Z h0 b .char 0 f0) :
    CtrW l Z (⟨"java/lang/String", "<init>", "([C)V"⟩ : MethodName) jdk_42_method_3_code 2 none rmI1 #[(.ref a), (.ref b)] h0 n0 (fun vm => IB Z vm []) (fun v vm h => v = none ∧ Keep h0 h [a] ∧ SL Z h a [] ∧ IB Z vm [""]) := by
  have hw := G.1
  refine CtrW.of (n1 := n0) #[.val (.ref a), .val (.ref b)] (plainFor_of_name pn0) (fun m => by first | (simp [entryFrame, mkF, argsToLocals, Value.category, maxLocals]; done) | rfl) ?_
  intro p e s0 vm0 m below meth c C hs0 hP0 Sw
  refine g_aloadN C d1_0 (v := (.ref a)) rfl rfl (q := 1) rfl ?_
  refine g_aloadN C d1_1 (v := (.ref b)) rfl rfl (q := 2) rfl ?_
  refine g_iconst C d1_2 (z := (0 : Int32)) rfl (q := 3) rfl ?_
  refine g_aloadN C d1_3 (v := (.ref b)) rfl rfl (q := 4) rfl ?_
  refine g_alen C d1_4 B0 (z := (0 : Int32)) rfl (q := 5) rfl ?_
  refine g_aconst_null C d1_5 (q := 6) rfl ?_
  refine g_callIW C (W := 0) (argsL := [(.ref b), (.int (0 : Int32)), (.int (0 : Int32)), .null]) (rest := []) (a := a) Sw d1_6 rfl (wd8 hw) (wd9 hw) (wd3 hw) (wd11 hw) (by decide) (c_init4e l Z a0 G a b h0 n0 Z0 ga X0 E0 o1 o2 V0 K0) (by decide) (by decide) (by decide) (by decide) rfl (lenOf pd2 rfl) rfl rfl (q := 9) rfl (fun vm' hW' => IB.warm hP0 hW') (fun v1 vm1 h1 hQ1 C1 Sw1 hW391 => ?_)
  obtain ⟨rfl, K1, S1, I1⟩ := hQ1
  refine ⟨[], rfl, ?_⟩
  exact g_returnW C1 Sw1 d1_9 (Nat.le_refl _) (by decide) (by decide) (fun vm' hW => ⟨rfl, K1, S1, IB.warm I1 hW⟩)
def SBF (Z : State) (h : Heap) (a : Addr) (v0 v1 v2 : Value) : Prop := Exa Z h a "java/lang/StringBuilder" ∧ Fld Z h a "java/lang/AbstractStringBuilder" "value" "[B" v0 ∧ Fld Z h a "java/lang/AbstractStringBuilder" "coder" "B" v1 ∧ Fld Z h a "java/lang/AbstractStringBuilder" "count" "I" v2
theorem SBF.ext {Z : State} {h h' : Heap} {a : Addr} {v0 v1 v2 : Value} (F : SBF Z h a v0 v1 v2) (E : Ext h h') : SBF Z h' a v0 v1 v2 := ⟨F.1.ext E, F.2.1.ext E, F.2.2.1.ext E, F.2.2.2.ext E⟩
theorem SBF.other {Z : State} {h h' : Heap} {a : Addr} {v0 v1 v2 : Value} {b : Addr} {sl : Nat} {v : Value} (F : SBF Z h a v0 v1 v2) (W : Wr h h' b sl v) (ne : a ≠ b) : SBF Z h' a v0 v1 v2 := ⟨F.1.wr W, F.2.1.other W (Or.inl ne), F.2.2.1.other W (Or.inl ne), F.2.2.2.other W (Or.inl ne)⟩
theorem SBF.keep {Z : State} {h h' : Heap} {a : Addr} {v0 v1 v2 : Value} {ws : List Addr} (F : SBF Z h a v0 v1 v2) (K : Keep h h' ws) (ne : a ∉ ws) : SBF Z h' a v0 v1 v2 := ⟨F.1.keep K, F.2.1.keep K ne, F.2.2.1.keep K ne, F.2.2.2.keep K ne⟩
theorem SBF.w0 {Z : State} {h h' : Heap} {a : Addr} {v0 v1 v2 : Value} {a0 : Array Value} {v : Value} (hw : ∀ d ∈ tables_1, d.before a0 Z = true) (F : SBF Z h a v0 v1 v2) (W : Wr h h' a (Jvm.RoadKit.slotOf Z "java/lang/AbstractStringBuilder" "value" "[B") v) : SBF Z h' a v v1 v2 := ⟨F.1.wr W, F.2.1.same W, F.2.2.1.other W (Or.inr (slot_ne (Or.inl (wd131 hw)) (Or.inl (wd129 hw)) (by decide) (t := .byte) (t' := (.array .byte)) (by decide) (by decide))), F.2.2.2.other W (Or.inr (slot_ne (Or.inl (wd153 hw)) (Or.inl (wd129 hw)) (by decide) (t := .int) (t' := (.array .byte)) (by decide) (by decide)))⟩
theorem SBF.w1 {Z : State} {h h' : Heap} {a : Addr} {v0 v1 v2 : Value} {a0 : Array Value} {v : Value} (hw : ∀ d ∈ tables_1, d.before a0 Z = true) (F : SBF Z h a v0 v1 v2) (W : Wr h h' a (Jvm.RoadKit.slotOf Z "java/lang/AbstractStringBuilder" "coder" "B") v) : SBF Z h' a v0 v v2 := ⟨F.1.wr W, F.2.1.other W (Or.inr (slot_ne (Or.inl (wd129 hw)) (Or.inl (wd131 hw)) (by decide) (t := (.array .byte)) (t' := .byte) (by decide) (by decide))), F.2.2.1.same W, F.2.2.2.other W (Or.inr (slot_ne (Or.inl (wd153 hw)) (Or.inl (wd131 hw)) (by decide) (t := .int) (t' := .byte) (by decide) (by decide)))⟩
theorem SBF.w2 {Z : State} {h h' : Heap} {a : Addr} {v0 v1 v2 : Value} {a0 : Array Value} {v : Value} (hw : ∀ d ∈ tables_1, d.before a0 Z = true) (F : SBF Z h a v0 v1 v2) (W : Wr h h' a (Jvm.RoadKit.slotOf Z "java/lang/AbstractStringBuilder" "count" "I") v) : SBF Z h' a v0 v1 v := ⟨F.1.wr W, F.2.1.other W (Or.inr (slot_ne (Or.inl (wd129 hw)) (Or.inl (wd153 hw)) (by decide) (t := (.array .byte)) (t' := .int) (by decide) (by decide))), F.2.2.1.other W (Or.inr (slot_ne (Or.inl (wd131 hw)) (Or.inl (wd153 hw)) (by decide) (t := .byte) (t' := .int) (by decide) (by decide))), F.2.2.2.same W⟩
abbrev rmS0 : Room := { frames := 0, cells := 0, slots := 0, locals := 0 }
abbrev rmS1 : Room := { frames := 1, cells := 0, slots := 0, locals := 16 }
abbrev rmS2 : Room := { frames := 2, cells := 0, slots := 0, locals := 40 }
abbrev rmS3 : Room := { frames := 3, cells := 0, slots := 0, locals := 64 }
abbrev rmS4 : Room := { frames := 4, cells := 0, slots := 0, locals := 88 }
abbrev rmS5 : Room := { frames := 5, cells := 0, slots := 0, locals := 112 }
abbrev rmB1 : Room := { frames := 1, cells := 1, slots := 16, locals := 16 }
abbrev rmB2 : Room := { frames := 2, cells := 1, slots := 16, locals := 40 }
abbrev rmR1 : Room := { frames := 1, cells := 1, slots := 40, locals := 32 }
abbrev rmR2 : Room := { frames := 2, cells := 1, slots := 40, locals := 56 }
abbrev rmR3 : Room := { frames := 3, cells := 1, slots := 40, locals := 80 }
abbrev rmR4 : Room := { frames := 4, cells := 1, slots := 40, locals := 104 }
abbrev rmR5 : Room := { frames := 5, cells := 2, slots := 44, locals := 128 }
/-- the builder at a, its array of N places at b, spells cs -/
def SBD (Z : State) (h : Heap) (a b : Addr) (N : Nat) (cs : List Int32) : Prop := SBF Z h a (.ref b) (.int 0) (.int (Int32.ofNat cs.length)) ∧ cs.length ≤ N ∧ ∃ f, Av Z h b .byte N f ∧ (∀ j, j < cs.length → f j = .int ((cs.getD j 0).toInt8.toInt32)) ∧ (∀ j, j < N → fits .byte (f j) = true) ∧ ∀ c ∈ cs, ¬ c < 0 ∧ ¬ (255 : Int32) < c
theorem fits_b (x : Int32) : fits .byte (.int x.toInt8.toInt32) = true := by
  have h1 : -128 ≤ (x.toInt8.toInt32).toInt := by rw [Int8.toInt_toInt32]; exact Int8.le_toInt _
  have h2 : (x.toInt8.toInt32).toInt ≤ 127 := by rw [Int8.toInt_toInt32]; have := Int8.toInt_lt x.toInt8; omega
  show (decide ((-128 : Int32) ≤ x.toInt8.toInt32) && decide (x.toInt8.toInt32 ≤ 127)) = true
  rw [Bool.and_eq_true, decide_eq_true_eq, decide_eq_true_eq, Int32.le_iff_toInt_le, Int32.le_iff_toInt_le]
  exact ⟨h1, h2⟩
theorem app_at {cs ds : List Int32} {f g : Nat → Value} {N : Nat} (hf : ∀ j, j < cs.length → f j = .int ((cs.getD j 0).toInt8.toInt32)) (hg : ∀ j, j < ds.length → g j = .int ((ds.getD j 0).toInt8.toInt32)) : ∀ j, j < (cs ++ ds).length → (if cs.length ≤ j ∧ j < cs.length + ds.length then g (0 + (j - cs.length)) else f j) = .int (((cs ++ ds).getD j 0).toInt8.toInt32) := fun j hj => by
  rw [List.length_append] at hj
  by_cases q : cs.length ≤ j
  · rw [if_pos ⟨q, hj⟩, Nat.zero_add, hg _ (by omega)]
    simp only [List.getD, List.getElem?_append_right q]
  · rw [if_neg (fun h => q h.1), hf _ (by omega)]
    simp only [List.getD, List.getElem?_append_left (Nat.lt_of_not_le q)]
set_option maxRecDepth 65536 in
set_option maxHeartbeats 40000000 in
theorem c_asbinit (l : Launch) (Z : State) (a0 : Array Value) (G : Gl Z a0) (cz : Int32) (fm : Value) (LG0 : LG Z cz fm) (a : Addr) (v0 v1 : Value) (h0 : Heap) (n0 : Nat) (Z0 : n0 ≤ h0.size) (X0 : Ext Z.heap h0) (ga : n0 ≤ a) (F : SBF Z h0 a v0 v1 (.int 0)) :
    Ctr l Z (⟨"java/lang/AbstractStringBuilder", "<init>", "(I)V"⟩ : MethodName) jdk_68_method_2_code 2 none rmB1 #[(.ref a), (.int (16 : Int32))] h0 n0 (fun v h => v = none ∧ ∃ b, h0.size ≤ b ∧ Keep h0 h [a] ∧ SBD Z h a b 16 [] ∧ Exa Z h b "[B") := by
  have hw := G.1
  have LG1 := LG0
  obtain ⟨S0, hcz, SF, hfm⟩ := LG0
  refine Ctr.of (n1 := n0) #[.val (.ref a), .val (.int (16 : Int32))] (plainFor_of_name pn2) (fun m => by first | (simp [entryFrame, mkF, argsToLocals, Value.category, maxLocals]; done) | rfl) ?_
  intro p e s m below meth c C
  refine g_aloadN C d20_0 (v := (.ref a)) rfl rfl (q := 1) rfl ?_
  refine g_initO C d20_1 (wd126 hw) (wd13 hw) (wd14 hw) rfl (by decide) (W := 0) rfl (by decide) (q := 4) rfl ?_
  refine g_gets C d20_4 (host := "") (Or.inl (wd127 hw)) Via.refl (S0.ext X0) (q := 7) rfl ?_
  refine g_if_eq C d20_7 (q' := 25) (q := 10) (by decide) (by decide) rfl (fun hy => absurd hy hcz) (fun hn => ?_)
  refine g_aloadN C d20_10 (v := (.ref a)) rfl rfl (q := 11) rfl ?_
  refine g_iloadN C d20_11 (v := (16 : Int32)) rfl (q := 12) rfl ?_
  refine g_newarrayE C d20_12 (wd16 hw) (by decide) (cap := 16) (by decide) (by decide) (by decide) (by decide) (ad := "[B") rfl (q := 14) rfl (fun b h1 k1 q1 E1 A1 F1 => ?_)
  have F1_ := F1
  have B1 : Av Z h1 b .byte 16 (fun _ => .int 0) := Av.new A1 (by decide)
  have F1 := F.ext E1
  have gb : h0.size ≤ b := by rw [q1]; exact Nat.le_refl _
  have nb : b ≠ a := B1.ne_exa F1.1 (wd115 hw)
  refine g_putf C d20_14 (host := "") (Or.inl (wd128 hw)) Via.refl F1.2.1 F1.1 (Or.inl (wd129 hw)) (wd115 hw) (ty := (.array .byte)) (by decide) rfl rfl ga (q := 17) rfl (fun h2 W2 => ?_)
  have F2 := F1.w0 hw W2
  refine g_aloadN C d20_17 (v := (.ref a)) rfl rfl (q := 18) rfl ?_
  refine g_iconst C d20_18 (z := (0 : Int32)) rfl (q := 19) rfl ?_
  refine g_putf C d20_19 (host := "") (Or.inl (wd130 hw)) Via.refl F2.2.2.1 F2.1 (Or.inl (wd131 hw)) (wd115 hw) (ty := .byte) (by decide) rfl rfl ga (q := 22) rfl (fun h3 W3 => ?_)
  have F3 := F2.w1 hw W3
  refine g_goto C d20_22 (q := 38) (by decide) (by decide) ?_
  refine g_return C d20_38 (Nat.le_refl _) (by decide) (by decide) ⟨rfl, b, gb, ((Ext.kp E1 [a]).wr W2 (Or.inl (by simp))).wr W3 (Or.inl (by simp)), ⟨F3, by decide, _, (B1.other W2 nb).other W3 nb, fun j hj => absurd hj (by simp), fun j hj => rfl, fun c hc => by simp at hc⟩, (F1_.wr W2).wr W3⟩
set_option maxRecDepth 65536 in
set_option maxHeartbeats 40000000 in
theorem c_sbinit (l : Launch) (Z : State) (a0 : Array Value) (G : Gl Z a0) (cz : Int32) (fm : Value) (LG0 : LG Z cz fm) (a : Addr) (v0 v1 : Value) (h0 : Heap) (n0 : Nat) (Z0 : n0 ≤ h0.size) (X0 : Ext Z.heap h0) (ga : n0 ≤ a) (F : SBF Z h0 a v0 v1 (.int 0)) :
    Ctr l Z (⟨"java/lang/StringBuilder", "<init>", "()V"⟩ : MethodName) jdk_67_method_1_code 1 none rmB2 #[(.ref a)] h0 n0 (fun v h => v = none ∧ ∃ b, h0.size ≤ b ∧ Keep h0 h [a] ∧ SBD Z h a b 16 [] ∧ Exa Z h b "[B") := by
  have hw := G.1
  refine Ctr.of (n1 := n0) #[.val (.ref a)] (plainFor_of_name pn3) (fun m => by first | (simp [entryFrame, mkF, argsToLocals, Value.category, maxLocals]; done) | rfl) ?_
  intro p e s m below meth c C
  refine g_aloadN C d19_0 (v := (.ref a)) rfl rfl (q := 1) rfl ?_
  refine g_bipush C d19_1 (z := (16 : Int32)) rfl (q := 3) rfl ?_
  refine g_callI C (W := 0) (argsL := [(.int (16 : Int32))]) (rest := []) (a := a) d19_3 rfl (wd120 hw) (wd121 hw) (wd125 hw) (by decide) (Ctr.bk (c_asbinit l Z a0 G cz fm LG0 a v0 v1 h0 n0 Z0 X0 ga F) C (wd125 hw) (wd124 hw) (by decide) (by decide)) (by decide) (by decide) rfl (lenOf pd3 rfl) rfl rfl (q := 6) rfl (fun v1 h1 hQ1 => ?_)
  obtain ⟨rfl, b, gb, K1, D1⟩ := hQ1
  refine ⟨[], rfl, ?_⟩
  refine g_return C d19_6 (Nat.le_refl _) (by decide) (by decide) ⟨rfl, b, gb, K1, D1⟩
theorem sub_le {k N : Nat} (hk : k ≤ N) (hN : N < 2 ^ 31) : ¬ (0 : Int32) < Int32.ofNat k - Int32.ofNat N := by
  obtain ⟨d, rfl⟩ := Nat.le.dest hk
  have e : Int32.ofNat k - Int32.ofNat (k + d) = -(Int32.ofNat d) := by
    rw [Int32.ofNat_add, Int32.sub_eq_add_neg, Int32.neg_add, Int32.sub_eq_add_neg, ← Int32.add_assoc, Int32.add_right_neg, Int32.zero_add]
  rw [e, Int32.lt_iff_toInt_lt, Int32.toInt_neg, Int32.toInt_ofNat_of_lt (by omega)]
  have e0 : (0 : Int32).toInt = 0 := rfl
  rw [e0, Int.bmod_eq_of_le (by omega) (by omega)]
  omega
set_option maxRecDepth 65536 in
set_option maxHeartbeats 40000000 in
theorem c_ensure (l : Launch) (Z : State) (a0 : Array Value) (G : Gl Z a0) (cz : Int32) (fm : Value) (LG0 : LG Z cz fm) (a b : Addr) (N : Nat) (cs : List Int32) (h0 : Heap) (n0 : Nat) (X0 : Ext Z.heap h0) (D : SBD Z h0 a b N cs) (k : Nat) (hk : k ≤ N) :
    Ctr l Z (⟨"java/lang/AbstractStringBuilder", "ensureCapacityInternal", "(I)V"⟩ : MethodName) jdk_68_method_9_code 3 none rmS0 #[(.ref a), (.int (Int32.ofNat k))] h0 n0 (fun v h => h0 = h ∧ v = none) := by
  have hw := G.1
  obtain ⟨F, hlen, f, B, hf, hfit, hpc⟩ := D
  have hN : N < 2 ^ 31 := by obtain ⟨_, _, _, r, _⟩ := B; exact r
  refine Ctr.of (n1 := n0) #[.val (.ref a), .val (.int (Int32.ofNat k)), .unset] (plainFor_of_name pn2) (fun m => by first | (simp [entryFrame, mkF, argsToLocals, Value.category, maxLocals]; done) | rfl) ?_
  intro p e s m below meth c C
  refine g_aloadN C d25_0 (v := (.ref a)) rfl rfl (q := 1) rfl ?_
  refine g_getf C d25_1 (host := "") (Or.inl (wd128 hw)) Via.refl F.2.1 (q := 4) rfl ?_
  refine g_alen C d25_4 B (z := (Int32.ofNat N)) rfl (q := 5) rfl ?_
  refine g_aloadN C d25_5 (v := (.ref a)) rfl rfl (q := 6) rfl ?_
  refine g_getf C d25_6 (host := "") (Or.inl (wd130 hw)) Via.refl F.2.2.1 (q := 9) rfl ?_
  refine g_ishr C d25_9 (q := 10) rfl ?_
  rw [shr0]
  refine g_istoreN C d25_10 (L' := #[.val (.ref a), .val (.int (Int32.ofNat k)), .val (.int (Int32.ofNat N))]) rfl (q := 11) rfl ?_
  refine g_iloadN C d25_11 (v := (Int32.ofNat k)) rfl (q := 12) rfl ?_
  refine g_iloadN C d25_12 (v := (Int32.ofNat N)) rfl (q := 13) rfl ?_
  refine g_isub C d25_13 (q := 14) rfl ?_
  refine g_if_le C d25_14 (q' := 38) (q := 17) (by decide) (by decide) rfl (fun hy => ?_) (fun hn_ => absurd hn_ (sub_le hk hN))
  refine g_return C d25_38 (Nat.le_refl _) (by decide) (by decide) ⟨rfl, rfl⟩
set_option maxRecDepth 65536 in
set_option maxHeartbeats 40000000 in
theorem c_inflate (l : Launch) (Z : State) (a0 : Array Value) (G : Gl Z a0) (cz : Int32) (fm : Value) (LG0 : LG Z cz fm) (a b : Addr) (N : Nat) (cs : List Int32) (h0 : Heap) (n0 : Nat) (X0 : Ext Z.heap h0) (D : SBD Z h0 a b N cs) (t : Addr) (ds : List Int32) (S : SL Z h0 t ds) :
    Ctr l Z (⟨"java/lang/AbstractStringBuilder", "inflateIfNeededFor", "(Ljava/lang/String;)V"⟩ : MethodName) jdk_68_method_71_code 2 none rmS1 #[(.ref a), (.ref t)] h0 n0 (fun v h => h0 = h ∧ v = none) := by
  have hw := G.1
  have LG1 := LG0
  obtain ⟨S0, hcz, SF, hfm⟩ := LG0
  obtain ⟨tb, ET, C1, V1, B1, p1⟩ := S
  obtain ⟨F, -⟩ := D
  refine Ctr.of (n1 := n0) #[.val (.ref a), .val (.ref t)] (plainFor_of_name pn2) (fun m => by first | (simp [entryFrame, mkF, argsToLocals, Value.category, maxLocals]; done) | rfl) ?_
  intro p e s m below meth c C
  refine g_gets C d27_0 (host := "") (Or.inl (wd127 hw)) Via.refl (S0.ext X0) (q := 3) rfl ?_
  refine g_if_eq C d27_3 (q' := 21) (q := 6) (by decide) (by decide) rfl (fun hy => absurd hy hcz) (fun hn => ?_)
  refine g_aloadN C d27_6 (v := (.ref a)) rfl rfl (q := 7) rfl ?_
  refine g_getf C d27_7 (host := "") (Or.inl (wd130 hw)) Via.refl F.2.2.1 (q := 10) rfl ?_
  refine g_aloadN C d27_10 (v := (.ref t)) rfl rfl (q := 11) rfl ?_
  refine g_callV C (W := 1) (argsL := []) (rest := [(.int (0 : Int32))]) (a := t) d27_11 (wd169 hw) (wd148 hw) (wd150 hw) (wd149 hw) (by decide) (nf_of C (wd150 hw)) ET (Ctr.bk (c_coder l Z a0 G cz fm LG1 h0 n0 X0 t C1) C (wd151 hw) (wd3 hw) (by decide) (by decide)) (by decide) (by decide) rfl (lenOf pd0 rfl) rfl rfl (q := 14) rfl (fun v1 h1 hQ1 => ?_)
  obtain ⟨rfl, rfl⟩ := hQ1
  refine ⟨[(.int (0 : Int32)), (.int (0 : Int32))], rfl, ?_⟩
  refine g_icmp_eq C d27_14 (q' := 21) (q := 17) (by decide) (by decide) rfl (fun hy => ?_) (fun hn => absurd rfl hn)
  refine g_return C d27_21 (Nat.le_refl _) (by decide) (by decide) ⟨rfl, rfl⟩
theorem shl0 (x : Int32) : x <<< ((0 : Int32) &&& 31) = x := by
  apply Int32.toBitVec_inj.mp
  simp
set_option maxRecDepth 65536 in
set_option maxHeartbeats 40000000 in
theorem c_getBytes (l : Launch) (Z : State) (a0 : Array Value) (G : Gl Z a0) (cz : Int32) (fm : Value) (LG0 : LG Z cz fm) (h0 : Heap) (n0 : Nat) (X0 : Ext Z.heap h0) (t : Addr) (ds : List Int32) (S : SL Z h0 t ds) (b : Addr) (N k : Nat) (f : Nat → Value) (B : Av Z h0 b .byte N f) (hfit : ∀ j, j < N → fits .byte (f j) = true) (hk : k + ds.length ≤ N) (gb : n0 ≤ b) :
    Ctr l Z (⟨"java/lang/String", "getBytes", "([BIB)V"⟩ : MethodName) jdk_42_method_147_code 4 none rmS2 #[(.ref t), (.ref b), (.int (Int32.ofNat k)), (.int (0 : Int32))] h0 n0 (fun v h => v = none ∧ Keep h0 h [b] ∧ Av Z h b .byte N (fun j => if k ≤ j ∧ j < k + ds.length then .int ((ds.getD (0 + (j - k)) 0).toInt8.toInt32) else f j)) := by
  have hw := G.1
  obtain ⟨tb, ET, C1, V1, B1, p1⟩ := S
  refine Ctr.of (n1 := n0) #[.val (.ref t), .val (.ref b), .val (.int (Int32.ofNat k)), .val (.int (0 : Int32))] (plainFor_of_name pn0) (fun m => by first | (simp [entryFrame, mkF, argsToLocals, Value.category, maxLocals]; done) | rfl) ?_
  intro p e s m below meth c C
  refine g_aloadN C d28_0 (v := (.ref t)) rfl rfl (q := 1) rfl ?_
  refine g_callV C (W := 0) (argsL := []) (rest := []) (a := t) d28_1 (wd147 hw) (wd148 hw) (wd150 hw) (wd149 hw) (by decide) (nf_of C (wd150 hw)) ET (Ctr.bk (c_coder l Z a0 G cz fm LG0 h0 n0 X0 t C1) C (wd151 hw) (wd3 hw) (by decide) (by decide)) (by decide) (by decide) rfl (lenOf pd0 rfl) rfl rfl (q := 4) rfl (fun v1 h1 hQ1 => ?_)
  obtain ⟨rfl, rfl⟩ := hQ1
  refine ⟨[(.int (0 : Int32))], rfl, ?_⟩
  refine g_iloadN C d28_4 (v := (0 : Int32)) rfl (q := 5) rfl ?_
  refine g_icmp_ne C d28_5 (q' := 28) (q := 8) (by decide) (by decide) rfl (fun hy => absurd rfl hy) (fun hn => ?_)
  refine g_aloadN C d28_8 (v := (.ref t)) rfl rfl (q := 9) rfl ?_
  refine g_getf C d28_9 (host := "") (Or.inl (wd21 hw)) Via.refl V1 (q := 12) rfl ?_
  refine g_iconst C d28_12 (z := (0 : Int32)) rfl (q := 13) rfl ?_
  refine g_aloadN C d28_13 (v := (.ref b)) rfl rfl (q := 14) rfl ?_
  refine g_iloadN C d28_14 (v := (Int32.ofNat k)) rfl (q := 15) rfl ?_
  refine g_iloadN C d28_15 (v := (0 : Int32)) rfl (q := 16) rfl ?_
  refine g_ishl C d28_16 (q := 17) rfl ?_
  refine g_aloadN C d28_17 (v := (.ref t)) rfl rfl (q := 18) rfl ?_
  rw [shl0]
  refine g_getf C d28_18 (host := "") (Or.inl (wd21 hw)) Via.refl V1 (q := 21) rfl ?_
  refine g_alen C d28_21 B1 (z := (Int32.ofNat ds.length)) rfl (q := 22) rfl ?_
  refine g_acopy C  d28_22 (wd175 hw) (wd178 hw) (wd176 hw) (wd177 hw) B1 B rfl (fun j hj => fits_b _) hfit (sp := 0) rfl (dp := k) rfl rfl (by omega) hk gb rfl (by decide) (W := 0) rfl (by decide) (q := 25) rfl (fun h2 K2 A2 => ?_)
  refine g_goto C d28_25 (q := 43) (by decide) (by decide) ?_
  refine g_return C d28_43 (Nat.le_refl _) (by decide) (by decide) ⟨rfl, K2, A2⟩
set_option maxRecDepth 65536 in
set_option maxHeartbeats 40000000 in
theorem c_putAt (l : Launch) (Z : State) (a0 : Array Value) (G : Gl Z a0) (cz : Int32) (fm : Value) (LG0 : LG Z cz fm) (a b : Addr) (N : Nat) (cs : List Int32) (h0 : Heap) (n0 : Nat) (X0 : Ext Z.heap h0) (D : SBD Z h0 a b N cs) (t : Addr) (ds : List Int32) (S : SL Z h0 t ds) (hk : cs.length + ds.length ≤ N) (ga : n0 ≤ a) (gb : n0 ≤ b) (nab : a ≠ b) :
    Ctr l Z (⟨"java/lang/AbstractStringBuilder", "putStringAt", "(ILjava/lang/String;)V"⟩ : MethodName) jdk_68_method_73_code 3 none rmS3 #[(.ref a), (.int (Int32.ofNat cs.length)), (.ref t)] h0 n0 (fun v h => v = none ∧ Keep h0 h [b] ∧ SBF Z h a (.ref b) (.int 0) (.int (Int32.ofNat cs.length)) ∧ ∃ f, Av Z h b .byte N f ∧ (∀ j, j < (cs ++ ds).length → f j = .int (((cs ++ ds).getD j 0).toInt8.toInt32)) ∧ (∀ j, j < N → fits .byte (f j) = true)) := by
  have hw := G.1
  have D0 := D
  obtain ⟨F, hlen, f, B, hf, hfit, hpc⟩ := D
  refine Ctr.of (n1 := n0) #[.val (.ref a), .val (.int (Int32.ofNat cs.length)), .val (.ref t)] (plainFor_of_name pn2) (fun m => by first | (simp [entryFrame, mkF, argsToLocals, Value.category, maxLocals]; done) | rfl) ?_
  intro p e s m below meth c C
  refine g_aloadN C d26_0 (v := (.ref a)) rfl rfl (q := 1) rfl ?_
  refine g_aloadN C d26_1 (v := (.ref t)) rfl rfl (q := 2) rfl ?_
  refine g_callQ C (W := 0) (argsL := [(.ref t)]) (rest := []) (a := a) d26_2 (wd164 hw) (wd165 hw) (wd167 hw) (wd168 hw) (by decide) (priv_of C (wd166 hw)) F.1 (Ctr.bk (c_inflate l Z a0 G cz fm LG0 a b N cs h0 n0 X0 D0 t ds S) C (wd168 hw) (wd124 hw) (by decide) (by decide)) (by decide) (by decide) rfl (lenOf pd4 rfl) rfl rfl (q := 5) rfl (fun v1 h1 hQ1 => ?_)
  obtain ⟨rfl, rfl⟩ := hQ1
  refine ⟨[], rfl, ?_⟩
  refine g_aloadN C d26_5 (v := (.ref t)) rfl rfl (q := 6) rfl ?_
  refine g_aloadN C d26_6 (v := (.ref a)) rfl rfl (q := 7) rfl ?_
  refine g_getf C d26_7 (host := "") (Or.inl (wd128 hw)) Via.refl F.2.1 (q := 10) rfl ?_
  refine g_iloadN C d26_10 (v := (Int32.ofNat cs.length)) rfl (q := 11) rfl ?_
  refine g_aloadN C d26_11 (v := (.ref a)) rfl rfl (q := 12) rfl ?_
  refine g_getf C d26_12 (host := "") (Or.inl (wd130 hw)) Via.refl F.2.2.1 (q := 15) rfl ?_
  refine g_callV C (W := 0) (argsL := [(.ref b), (.int (Int32.ofNat cs.length)), (.int (0 : Int32))]) (rest := []) (a := t) d26_15 (wd170 hw) (wd171 hw) (wd173 hw) (wd172 hw) (by decide) (nf_of C (wd173 hw)) S.exa (Ctr.bk (c_getBytes l Z a0 G cz fm LG0 h0 n0 X0 t ds S b N cs.length f B hfit hk gb) C (wd174 hw) (wd3 hw) (by decide) (by decide)) (by decide) (by decide) rfl (lenOf pd5 rfl) rfl rfl (q := 18) rfl (fun v2 h2 hQ2 => ?_)
  obtain ⟨rfl, K2, B2⟩ := hQ2
  refine ⟨[], rfl, ?_⟩
  refine g_return C d26_18 (Nat.le_refl _) (by decide) (by decide) ⟨rfl, K2, F.keep K2 (by simp [nab]), _, B2, fun j hj => app_at (N := N) (g := fun j => .int ((ds.getD j 0).toInt8.toInt32)) hf (fun _ _ => rfl) j hj, fun j hj => by
      by_cases q : cs.length ≤ j ∧ j < cs.length + ds.length
      · rw [if_pos q]; exact fits_b _
      · rw [if_neg q]; exact hfit j hj⟩
set_option maxRecDepth 65536 in
set_option maxHeartbeats 40000000 in
theorem c_asbapp (l : Launch) (Z : State) (a0 : Array Value) (G : Gl Z a0) (cz : Int32) (fm : Value) (LG0 : LG Z cz fm) (a b : Addr) (N : Nat) (cs : List Int32) (h0 : Heap) (n0 : Nat) (X0 : Ext Z.heap h0) (D : SBD Z h0 a b N cs) (t : Addr) (ds : List Int32) (S : SL Z h0 t ds) (hk : cs.length + ds.length ≤ N) (ga : n0 ≤ a) (gb : n0 ≤ b) (nab : a ≠ b) :
    Ctr l Z (⟨"java/lang/AbstractStringBuilder", "append", "(Ljava/lang/String;)Ljava/lang/AbstractStringBuilder;"⟩ : MethodName) jdk_68_method_22_code 3 (some (.object "java/lang/AbstractStringBuilder")) rmS4 #[(.ref a), (.ref t)] h0 n0 (fun v h => v = some (.ref a) ∧ Keep h0 h [a, b] ∧ SBD Z h a b N (cs ++ ds)) := by
  have hw := G.1
  have D0 := D
  have pd : ∀ c ∈ ds, ¬ c < 0 ∧ ¬ (255 : Int32) < c := by obtain ⟨_, _, _, _, _, r⟩ := S; exact r
  obtain ⟨F, hlen, f, B, hf, hfit, hpc⟩ := D
  have ec : Int32.ofNat cs.length + Int32.ofNat ds.length = Int32.ofNat (cs.length + ds.length) := (Int32.ofNat_add _ _).symm
  refine Ctr.of (n1 := n0) #[.val (.ref a), .val (.ref t), .unset] (plainFor_of_name pn2) (fun m => by first | (simp [entryFrame, mkF, argsToLocals, Value.category, maxLocals]; done) | rfl) ?_
  intro p e s m below meth c C
  refine g_aloadN C d22_0 (v := (.ref t)) rfl rfl (q := 1) rfl ?_
  refine g_ifnonnullY C d22_1 (q := 9) (by decide) (by decide) ?_
  refine g_aloadN C d22_9 (v := (.ref t)) rfl rfl (q := 10) rfl ?_
  refine g_callV C (W := 0) (argsL := []) (rest := []) (a := t) d22_10 (wd142 hw) (wd143 hw) (wd145 hw) (wd144 hw) (by decide) (nf_of C (wd145 hw)) S.exa (Ctr.bk (c_len l Z a0 G cz fm LG0 h0 n0 X0 t ds S) C (wd146 hw) (wd3 hw) (by decide) (by decide)) (by decide) (by decide) rfl (lenOf pd6 rfl) rfl rfl (q := 13) rfl (fun v1 h1 hQ1 => ?_)
  obtain ⟨rfl, rfl⟩ := hQ1
  refine ⟨[(.int (Int32.ofNat ds.length))], rfl, ?_⟩
  refine g_istoreN C d22_13 (L' := #[.val (.ref a), .val (.ref t), .val (.int (Int32.ofNat ds.length))]) rfl (q := 14) rfl ?_
  refine g_aloadN C d22_14 (v := (.ref a)) rfl rfl (q := 15) rfl ?_
  refine g_aloadN C d22_15 (v := (.ref a)) rfl rfl (q := 16) rfl ?_
  refine g_getf C d22_16 (host := "") (Or.inl (wd152 hw)) Via.refl F.2.2.2 (q := 19) rfl ?_
  refine g_iloadN C d22_19 (v := (Int32.ofNat ds.length)) rfl (q := 20) rfl ?_
  refine g_iadd C d22_20 (q := 21) rfl ?_
  rw [ec]
  refine g_callQ C (W := 0) (argsL := [(.int (Int32.ofNat (cs.length + ds.length)))]) (rest := []) (a := a) d22_21 (wd154 hw) (wd155 hw) (wd157 hw) (wd158 hw) (by decide) (priv_of C (wd156 hw)) F.1 (Ctr.bk (c_ensure l Z a0 G cz fm LG0 a b N cs h0 n0 X0 D0 (cs.length + ds.length) hk) C (wd158 hw) (wd124 hw) (by decide) (by decide)) (by decide) (by decide) rfl (lenOf pd3 rfl) rfl rfl (q := 24) rfl (fun v1 h1 hQ1 => ?_)
  obtain ⟨rfl, rfl⟩ := hQ1
  refine ⟨[], rfl, ?_⟩
  refine g_aloadN C d22_24 (v := (.ref a)) rfl rfl (q := 25) rfl ?_
  refine g_aloadN C d22_25 (v := (.ref a)) rfl rfl (q := 26) rfl ?_
  refine g_getf C d22_26 (host := "") (Or.inl (wd152 hw)) Via.refl F.2.2.2 (q := 29) rfl ?_
  refine g_aloadN C d22_29 (v := (.ref t)) rfl rfl (q := 30) rfl ?_
  refine g_callQ C (W := 0) (argsL := [(.int (Int32.ofNat cs.length)), (.ref t)]) (rest := []) (a := a) d22_30 (wd159 hw) (wd160 hw) (wd162 hw) (wd163 hw) (by decide) (priv_of C (wd161 hw)) F.1 (Ctr.bk (c_putAt l Z a0 G cz fm LG0 a b N cs h0 n0 X0 D0 t ds S hk ga gb nab) C (wd163 hw) (wd124 hw) (by decide) (by decide)) (by decide) (by decide) rfl (lenOf pd7 rfl) rfl rfl (q := 33) rfl (fun v2 h2 hQ2 => ?_)
  obtain ⟨rfl, K2, F2, f2, B2, hf2, hfit2⟩ := hQ2
  refine ⟨[], rfl, ?_⟩
  refine g_aloadN C d22_33 (v := (.ref a)) rfl rfl (q := 34) rfl ?_
  refine g_dup C d22_34 rfl (q := 35) rfl ?_
  refine g_getf C d22_35 (host := "") (Or.inl (wd152 hw)) Via.refl F2.2.2.2 (q := 38) rfl ?_
  refine g_iloadN C d22_38 (v := (Int32.ofNat ds.length)) rfl (q := 39) rfl ?_
  refine g_iadd C d22_39 (q := 40) rfl ?_
  rw [ec]
  refine g_putf C d22_40 (host := "") (Or.inl (wd152 hw)) Via.refl F2.2.2.2 F2.1 (Or.inl (wd153 hw)) (wd115 hw) (ty := .int) (by decide) rfl rfl ga (q := 43) rfl (fun h3 W3 => ?_)
  have F3 := F2.w2 hw W3
  have D3 : SBD Z h3 a b N (cs ++ ds) := ⟨by rw [List.length_append]; exact F3, by rw [List.length_append]; exact hk, f2, B2.other W3 (Ne.symm nab), hf2, hfit2, fun c hc => by
    rcases List.mem_append.mp hc with q | q
    · exact hpc c q
    · exact pd c q⟩
  refine g_aloadN C d22_43 (v := (.ref a)) rfl rfl (q := 44) rfl ?_
  refine g_areturn C d22_44 rfl rfl (Nat.le_refl _) (by decide) (by decide) ⟨rfl, (((Keep.refl h0 [a, b]).trans K2 (fun x hx => Or.inl (by cases List.mem_singleton.mp hx; simp))).wr W3 (Or.inl (by simp))), D3⟩
set_option maxRecDepth 65536 in
set_option maxHeartbeats 40000000 in
theorem c_append (l : Launch) (Z : State) (a0 : Array Value) (G : Gl Z a0) (cz : Int32) (fm : Value) (LG0 : LG Z cz fm) (a b : Addr) (N : Nat) (cs : List Int32) (h0 : Heap) (n0 : Nat) (X0 : Ext Z.heap h0) (D : SBD Z h0 a b N cs) (t : Addr) (ds : List Int32) (S : SL Z h0 t ds) (hk : cs.length + ds.length ≤ N) (ga : n0 ≤ a) (gb : n0 ≤ b) (nab : a ≠ b) :
    Ctr l Z (⟨"java/lang/StringBuilder", "append", "(Ljava/lang/String;)Ljava/lang/StringBuilder;"⟩ : MethodName) jdk_67_method_7_code 2 (some (.object "java/lang/StringBuilder")) rmS5 #[(.ref a), (.ref t)] h0 n0 (fun v h => v = some (.ref a) ∧ Keep h0 h [a, b] ∧ SBD Z h a b N (cs ++ ds)) := by
  have hw := G.1
  refine Ctr.of (n1 := n0) #[.val (.ref a), .val (.ref t)] (plainFor_of_name pn3) (fun m => by first | (simp [entryFrame, mkF, argsToLocals, Value.category, maxLocals]; done) | rfl) ?_
  intro p e s m below meth c C
  refine g_aloadN C d21_0 (v := (.ref a)) rfl rfl (q := 1) rfl ?_
  refine g_aloadN C d21_1 (v := (.ref t)) rfl rfl (q := 2) rfl ?_
  refine g_callU C (W := 0) (argsL := [(.ref t)]) (rest := []) (a := a) d21_2 (wd137 hw) (wd138 hw) (wd139 hw) (wd157 hw) rfl (by decide) (wd141 hw) (by decide) D.1.1 (Ctr.bk (c_asbapp l Z a0 G cz fm LG0 a b N cs h0 n0 X0 D t ds S hk ga gb nab) C (wd141 hw) (wd124 hw) (by decide) (by decide)) (by decide) (by decide) rfl (lenOf pd8 rfl) rfl rfl (q := 5) rfl (fun v1 h1 hQ1 => ?_)
  obtain ⟨rfl, K1, D1⟩ := hQ1
  refine ⟨[(.ref a)], rfl, ?_⟩
  refine g_pop C d21_5 rfl (q := 6) rfl ?_
  refine g_aloadN C d21_6 (v := (.ref a)) rfl rfl (q := 7) rfl ?_
  refine g_areturn C d21_7 rfl rfl (Nat.le_refl _) (by decide) (by decide) ⟨rfl, K1, D1⟩
set_option maxRecDepth 65536 in
set_option maxHeartbeats 40000000 in
theorem c_chkLen (l : Launch) (Z : State) (a0 : Array Value) (G : Gl Z a0) (k : Nat) (hk : k < 2 ^ 31) (h0 : Heap) (n0 : Nat) :
    Ctr l Z (⟨"java/util/Arrays", "checkLength", "(II)V"⟩ : MethodName) jdk_65_method_131_code 2 none rmS0 #[(.int (0 : Int32)), (.int (Int32.ofNat k))] h0 n0 (fun v h => h0 = h ∧ v = none) := by
  have hw := G.1
  refine Ctr.of (n1 := n0) #[.val (.int (0 : Int32)), .val (.int (Int32.ofNat k))] (plainFor_of_name pn4) (fun m => by first | (simp [entryFrame, mkF, argsToLocals, Value.category, maxLocals]; done) | rfl) ?_
  intro p e s m below meth c C
  refine g_iloadN C d44_0 (v := (Int32.ofNat k)) rfl (q := 1) rfl ?_
  refine g_iloadN C d44_1 (v := (0 : Int32)) rfl (q := 2) rfl ?_
  refine g_icmp_ge C d44_2 (q' := 37) (q := 5) (by decide) (by decide) rfl (fun hy => ?_) (fun hn_ => absurd hn_ (nn32 hk))
  refine g_return C d44_37 (Nat.le_refl _) (by decide) (by decide) ⟨rfl, rfl⟩
set_option maxRecDepth 65536 in
set_option maxHeartbeats 40000000 in
theorem c_minL (l : Launch) (Z : State) (a0 : Array Value) (G : Gl Z a0) (N k : Nat) (hk : k ≤ N) (hN : N < 2 ^ 31) (h0 : Heap) (n0 : Nat) :
    Ctr l Z (⟨"java/lang/Math", "min", "(II)I"⟩ : MethodName) jdk_29_method_69_code 2 (some .int) rmS0 #[(.int (Int32.ofNat N)), (.int (Int32.ofNat k))] h0 n0 (fun v h => h0 = h ∧ v = some (.int (Int32.ofNat k))) := by
  have hw := G.1
  refine Ctr.of (n1 := n0) #[.val (.int (Int32.ofNat N)), .val (.int (Int32.ofNat k))] (by decide +kernel) (fun m => by first | (simp [entryFrame, mkF, argsToLocals, Value.category, maxLocals]; done) | rfl) ?_
  intro p e s m below meth c C
  refine g_iloadN C d42_0 (v := (Int32.ofNat N)) rfl (q := 1) rfl ?_
  refine g_iloadN C d42_1 (v := (Int32.ofNat k)) rfl (q := 2) rfl ?_
  refine g_icmp_gt C d42_2 (q' := 9) (q := 5) (by decide) (by decide) rfl (fun q1 => ?_) (fun q1 => ?_)
  ·
    refine g_iloadN C d42_9 (v := (Int32.ofNat k)) rfl (q := 10) rfl ?_
    refine g_ireturn C d42_10 (Nat.le_refl _) (by decide) (by decide) ⟨rfl, rfl⟩
  ·
    have e : N = k := by
      rw [Int32.lt_iff_toInt_lt, Int32.toInt_ofNat_of_lt (by omega), Int32.toInt_ofNat_of_lt (by omega)] at q1
      omega
    subst e
    refine g_iloadN C d42_5 (v := (Int32.ofNat N)) rfl (q := 6) rfl ?_
    refine g_goto C d42_6 (q := 10) (by decide) (by decide) ?_
    refine g_ireturn C d42_10 (Nat.le_refl _) (by decide) (by decide) ⟨rfl, rfl⟩
set_option maxRecDepth 65536 in
set_option maxHeartbeats 40000000 in
theorem c_copyB (l : Launch) (Z : State) (a0 : Array Value) (G : Gl Z a0) (b : Addr) (N k : Nat) (f : Nat → Value) (h0 : Heap) (n0 : Nat) (Z0 : n0 ≤ h0.size) (B : Av Z h0 b .byte N f) (hfit : ∀ j, j < N → fits .byte (f j) = true) (hk : k ≤ N) (hk40 : k ≤ 40) :
    Ctr l Z (⟨"java/util/Arrays", "copyOfRangeByte", "([BII)[B"⟩ : MethodName) jdk_65_method_133_code 5 (some (.array .byte)) rmR1 #[(.ref b), (.int (0 : Int32)), (.int (Int32.ofNat k))] h0 n0 (fun v h => ∃ r, v = some (.ref r) ∧ h0.size ≤ r ∧ Keep h0 h [] ∧ Av Z h r .byte k f) := by
  have hw := G.1
  have hN : N < 2 ^ 31 := by obtain ⟨_, _, _, r, _⟩ := B; exact r
  refine Ctr.of (n1 := n0) #[.val (.ref b), .val (.int (0 : Int32)), .val (.int (Int32.ofNat k)), .unset, .unset] (plainFor_of_name pn4) (fun m => by first | (simp [entryFrame, mkF, argsToLocals, Value.category, maxLocals]; done) | rfl) ?_
  intro p e s m below meth c C
  refine g_iloadN C d43_0 (v := (0 : Int32)) rfl (q := 1) rfl ?_
  refine g_iloadN C d43_1 (v := (Int32.ofNat k)) rfl (q := 2) rfl ?_
  refine g_callS C (W := 0) (argsL := [(.int (0 : Int32)), (.int (Int32.ofNat k))]) (rest := []) d43_2 (wd253 hw) (wd254 hw) (wd212 hw) (wd255 hw) (by decide) (Ctr.bk (c_chkLen l Z a0 G k (by omega) h0 n0) C (wd255 hw) (wd212 hw) (by decide) (by decide)) (by decide) (by decide) rfl (lenOf pd9 rfl) rfl rfl (q := 5) rfl (fun v1 h1 hQ1 => ?_)
  obtain ⟨rfl, rfl⟩ := hQ1
  refine ⟨[], rfl, ?_⟩
  refine g_iloadN C d43_5 (v := (Int32.ofNat k)) rfl (q := 6) rfl ?_
  refine g_iloadN C d43_6 (v := (0 : Int32)) rfl (q := 7) rfl ?_
  refine g_isub C d43_7 (q := 8) rfl ?_
  rw [Int32.sub_zero]
  refine g_istoreN C d43_8 (L' := #[.val (.ref b), .val (.int (0 : Int32)), .val (.int (Int32.ofNat k)), .val (.int (Int32.ofNat k)), .unset]) rfl (q := 9) rfl ?_
  refine g_iloadN C d43_9 (v := (Int32.ofNat k)) rfl (q := 10) rfl ?_
  refine g_newarray C d43_10 (wd16 hw) (nn32 (by omega)) (cap := 40) (by rw [Int32.toNatClampNeg_ofNat_of_lt (by omega)]; exact hk40) (by decide) (by decide) (by decide) (q := 12) rfl (fun r h1 k1 q1 E1 A1 => ?_)
  have B1 : Av Z h1 r .byte k (fun _ => .int 0) := by
    have q := Av.new A1 (nn32 (show k < 2 ^ 31 by omega))
    rw [Int32.toNatClampNeg_ofNat_of_lt (by omega)] at q
    exact q
  have gr : h0.size ≤ r := by rw [q1]; exact Nat.le_refl _
  refine g_astore C d43_12 rfl (L' := #[.val (.ref b), .val (.int (0 : Int32)), .val (.int (Int32.ofNat k)), .val (.int (Int32.ofNat k)), .val (.ref r)]) rfl (q := 14) rfl ?_
  refine g_aloadN C d43_14 (v := (.ref b)) rfl rfl (q := 15) rfl ?_
  refine g_iloadN C d43_15 (v := (0 : Int32)) rfl (q := 16) rfl ?_
  refine g_aload C d43_16 (v := (.ref r)) rfl rfl (q := 18) rfl ?_
  refine g_iconst C d43_18 (z := (0 : Int32)) rfl (q := 19) rfl ?_
  refine g_aloadN C d43_19 (v := (.ref b)) rfl rfl (q := 20) rfl ?_
  refine g_alen C d43_20 (B.ext E1) (z := (Int32.ofNat N)) rfl (q := 21) rfl ?_
  refine g_iloadN C d43_21 (v := (0 : Int32)) rfl (q := 22) rfl ?_
  refine g_isub C d43_22 (q := 23) rfl ?_
  refine g_iloadN C d43_23 (v := (Int32.ofNat k)) rfl (q := 24) rfl ?_
  rw [Int32.sub_zero]
  refine g_callS C (W := 4) (argsL := [(.int (Int32.ofNat N)), (.int (Int32.ofNat k))]) (rest := [(.int (0 : Int32)), (.ref r), (.int (0 : Int32)), (.ref b)]) d43_24 (wd246 hw) (wd247 hw) (wd239 hw) (wd248 hw) (by decide) (Ctr.bk (c_minL l Z a0 G N k hk hN h1 n0) C (wd248 hw) (wd239 hw) (by decide) (by decide)) (by decide) (by decide) rfl (lenOf pd10 rfl) rfl rfl (q := 27) rfl (fun v2 h2 hQ2 => ?_)
  obtain ⟨rfl, rfl⟩ := hQ2
  refine ⟨[(.int (Int32.ofNat k)), (.int (0 : Int32)), (.ref r), (.int (0 : Int32)), (.ref b)], rfl, ?_⟩
  refine g_acopy C  d43_27 (wd249 hw) (wd178 hw) (wd176 hw) (wd177 hw) (B.ext E1) B1 rfl hfit (fun j hj => rfl) (sp := 0) rfl (dp := 0) rfl rfl (by omega) (by omega) (by rw [q1]; exact Z0) rfl (by decide) (W := 0) rfl (by decide) (q := 30) rfl (fun h3 K3 A3 => ?_)
  refine g_aload C d43_30 (v := (.ref r)) rfl rfl (q := 32) rfl ?_
  refine g_areturn C d43_32 rfl rfl (Nat.le_refl _) (by decide) (by decide) ⟨r, rfl, gr, (Ext.kp E1 []).trans K3 (fun x hx => Or.inr (by cases List.mem_singleton.mp hx; exact gr)), A3.congr (fun j hj => by rw [if_pos ⟨Nat.zero_le _, by omega⟩, Nat.zero_add, Nat.sub_zero])⟩
set_option maxRecDepth 65536 in
set_option maxHeartbeats 40000000 in
theorem c_copyR (l : Launch) (Z : State) (a0 : Array Value) (G : Gl Z a0) (b : Addr) (N k : Nat) (f : Nat → Value) (h0 : Heap) (n0 : Nat) (Z0 : n0 ≤ h0.size) (B : Av Z h0 b .byte N f) (hfit : ∀ j, j < N → fits .byte (f j) = true) (hk : k ≤ N) (hk40 : k ≤ 40) (hkN : ¬ k = N) :
    Ctr l Z (⟨"java/util/Arrays", "copyOfRange", "([BII)[B"⟩ : MethodName) jdk_65_method_132_code 3 (some (.array .byte)) rmR2 #[(.ref b), (.int (0 : Int32)), (.int (Int32.ofNat k))] h0 n0 (fun v h => ∃ r, v = some (.ref r) ∧ h0.size ≤ r ∧ Keep h0 h [] ∧ Av Z h r .byte k f) := by
  have hw := G.1
  have hN : N < 2 ^ 31 := by obtain ⟨_, _, _, r, _⟩ := B; exact r
  refine Ctr.of (n1 := n0) #[.val (.ref b), .val (.int (0 : Int32)), .val (.int (Int32.ofNat k))] (plainFor_of_name pn4) (fun m => by first | (simp [entryFrame, mkF, argsToLocals, Value.category, maxLocals]; done) | rfl) ?_
  intro p e s m below meth c C
  refine g_iloadN C d36_0 (v := (0 : Int32)) rfl (q := 1) rfl ?_
  refine g_if_ne C d36_1 (q' := 10) (q := 4) (by decide) (by decide) rfl (fun hy => absurd rfl hy) (fun hn => ?_)
  refine g_iloadN C d36_4 (v := (Int32.ofNat k)) rfl (q := 5) rfl ?_
  refine g_aloadN C d36_5 (v := (.ref b)) rfl rfl (q := 6) rfl ?_
  refine g_alen C d36_6 B (z := (Int32.ofNat N)) rfl (q := 7) rfl ?_
  refine g_icmp_eq C d36_7 (q' := 17) (q := 10) (by decide) (by decide) rfl (fun hy => absurd (ofNat_inj' (by omega) hN hy) hkN) (fun hn => ?_)
  refine g_aloadN C d36_10 (v := (.ref b)) rfl rfl (q := 11) rfl ?_
  refine g_iloadN C d36_11 (v := (0 : Int32)) rfl (q := 12) rfl ?_
  refine g_iloadN C d36_12 (v := (Int32.ofNat k)) rfl (q := 13) rfl ?_
  refine g_callS C (W := 0) (argsL := [(.ref b), (.int (0 : Int32)), (.int (Int32.ofNat k))]) (rest := []) d36_13 (wd250 hw) (wd251 hw) (wd212 hw) (wd252 hw) (by decide) (Ctr.bk (c_copyB l Z a0 G b N k f h0 n0 Z0 B hfit hk hk40) C (wd252 hw) (wd212 hw) (by decide) (by decide)) (by decide) (by decide) rfl (lenOf pd11 rfl) rfl rfl (q := 16) rfl (fun v1 h1 hQ1 => ?_)
  obtain ⟨r, rfl, gr, K1, A1⟩ := hQ1
  refine ⟨[(.ref r)], rfl, ?_⟩
  refine g_areturn C d36_16 rfl rfl (Nat.le_refl _) (by decide) (by decide) ⟨r, rfl, gr, K1, A1⟩
set_option maxRecDepth 65536 in
set_option maxHeartbeats 40000000 in
theorem c_copyRE (l : Launch) (Z : State) (a0 : Array Value) (G : Gl Z a0) (b : Addr) (N k : Nat) (f : Nat → Value) (h0 : Heap) (n0 : Nat) (Z0 : n0 ≤ h0.size) (B : Av Z h0 b .byte N f) (hfit : ∀ j, j < N → fits .byte (f j) = true) (hk : k ≤ N) (hk40 : k ≤ 40) (hkN : k = N) (EB : Exa Z h0 b "[B") :
    Ctr l Z (⟨"java/util/Arrays", "copyOfRange", "([BII)[B"⟩ : MethodName) jdk_65_method_132_code 3 (some (.array .byte)) rmR2 #[(.ref b), (.int (0 : Int32)), (.int (Int32.ofNat k))] h0 n0 (fun v h => ∃ r, v = some (.ref r) ∧ h0.size ≤ r ∧ Keep h0 h [] ∧ Av Z h r .byte k f) := by
  have hw := G.1
  have hN : N < 2 ^ 31 := by obtain ⟨_, _, _, r, _⟩ := B; exact r
  subst hkN
  refine Ctr.of (n1 := n0) #[.val (.ref b), .val (.int (0 : Int32)), .val (.int (Int32.ofNat k))] (plainFor_of_name pn4) (fun m => by first | (simp [entryFrame, mkF, argsToLocals, Value.category, maxLocals]; done) | rfl) ?_
  intro p e s m below meth c C
  refine g_iloadN C d36_0 (v := (0 : Int32)) rfl (q := 1) rfl ?_
  refine g_if_ne C d36_1 (q' := 10) (q := 4) (by decide) (by decide) rfl (fun hy => absurd rfl hy) (fun hn => ?_)
  refine g_iloadN C d36_4 (v := (Int32.ofNat k)) rfl (q := 5) rfl ?_
  refine g_aloadN C d36_5 (v := (.ref b)) rfl rfl (q := 6) rfl ?_
  refine g_alen C d36_6 B (z := (Int32.ofNat k)) rfl (q := 7) rfl ?_
  refine g_icmp_eq C d36_7 (q' := 17) (q := 10) (by decide) (by decide) rfl (fun hy => ?_) (fun hn => absurd rfl hn)
  refine g_aloadN C d36_17 (v := (.ref b)) rfl rfl (q := 18) rfl ?_
  refine g_clone C d36_18 (wd214 hw) (wd215 hw) (wd219 hw) (wd217 hw) (wd218 hw) (wd220 hw) B hfit EB rfl (by decide) (W := 0) rfl (by decide) (cap := 40) hk40 (by decide) (by decide) (q := 21) rfl (fun r h1 q1 E1 A1 F1 => ?_)
  refine g_castY C d36_21 (wd221 hw) (Ins.self F1) (q := 24) rfl ?_
  refine g_areturn C d36_24 rfl rfl (Nat.le_refl _) (by decide) (by decide) ⟨r, rfl, by rw [q1]; exact Nat.le_refl _, Ext.kp E1 [], A1⟩
set_option maxRecDepth 65536 in
set_option maxHeartbeats 40000000 in
theorem c_getValue (l : Launch) (Z : State) (a0 : Array Value) (G : Gl Z a0) (a b : Addr) (N : Nat) (cs : List Int32) (h0 : Heap) (n0 : Nat) (D : SBD Z h0 a b N cs) :
    Ctr l Z (⟨"java/lang/AbstractStringBuilder", "getValue", "()[B"⟩ : MethodName) jdk_68_method_64_code 1 (some (.array .byte)) rmS0 #[(.ref a)] h0 n0 (fun v h => h0 = h ∧ v = some (.ref b)) := by
  have hw := G.1
  obtain ⟨F, -⟩ := D
  refine Ctr.of (n1 := n0) #[.val (.ref a)] (plainFor_of_name pn2) (fun m => by first | (simp [entryFrame, mkF, argsToLocals, Value.category, maxLocals]; done) | rfl) ?_
  intro p e s m below meth c C
  refine g_aloadN C d32_0 (v := (.ref a)) rfl rfl (q := 1) rfl ?_
  refine g_getf C d32_1 (host := "") (Or.inl (wd128 hw)) Via.refl F.2.1 (q := 4) rfl ?_
  refine g_areturn C d32_4 rfl rfl (Nat.le_refl _) (by decide) (by decide) ⟨rfl, rfl⟩
set_option maxRecDepth 65536 in
set_option maxHeartbeats 40000000 in
theorem c_asblen (l : Launch) (Z : State) (a0 : Array Value) (G : Gl Z a0) (a b : Addr) (N : Nat) (cs : List Int32) (h0 : Heap) (n0 : Nat) (D : SBD Z h0 a b N cs) :
    Ctr l Z (⟨"java/lang/AbstractStringBuilder", "length", "()I"⟩ : MethodName) jdk_68_method_6_code 1 (some .int) rmS0 #[(.ref a)] h0 n0 (fun v h => h0 = h ∧ v = some (.int (Int32.ofNat cs.length))) := by
  have hw := G.1
  obtain ⟨F, -⟩ := D
  refine Ctr.of (n1 := n0) #[.val (.ref a)] (plainFor_of_name pn2) (fun m => by first | (simp [entryFrame, mkF, argsToLocals, Value.category, maxLocals]; done) | rfl) ?_
  intro p e s m below meth c C
  refine g_aloadN C d34_0 (v := (.ref a)) rfl rfl (q := 1) rfl ?_
  refine g_getf C d34_1 (host := "") (Or.inl (wd152 hw)) Via.refl F.2.2.2 (q := 4) rfl ?_
  refine g_ireturn C d34_4 (Nat.le_refl _) (by decide) (by decide) ⟨rfl, rfl⟩
set_option maxRecDepth 65536 in
set_option maxHeartbeats 40000000 in
theorem c_sblen (l : Launch) (Z : State) (a0 : Array Value) (G : Gl Z a0) (a b : Addr) (N : Nat) (cs : List Int32) (h0 : Heap) (n0 : Nat) (D : SBD Z h0 a b N cs) :
    Ctr l Z (⟨"java/lang/StringBuilder", "length", "()I"⟩ : MethodName) jdk_67_method_93_code 1 (some .int) rmS1 #[(.ref a)] h0 n0 (fun v h => h0 = h ∧ v = some (.int (Int32.ofNat cs.length))) := by
  have hw := G.1
  refine Ctr.of (n1 := n0) #[.val (.ref a)] (plainFor_of_name pn3) (fun m => by first | (simp [entryFrame, mkF, argsToLocals, Value.category, maxLocals]; done) | rfl) ?_
  intro p e s m below meth c C
  refine g_aloadN C d33_0 (v := (.ref a)) rfl rfl (q := 1) rfl ?_
  refine g_callU C (W := 0) (argsL := []) (rest := []) (a := a) d33_1 (wd203 hw) (wd199 hw) (wd139 hw) (wd157 hw) rfl (by decide) (wd204 hw) (by decide) D.1.1 (Ctr.bk (c_asblen l Z a0 G a b N cs h0 n0 D) C (wd204 hw) (wd124 hw) (by decide) (by decide)) (by decide) (by decide) rfl (lenOf pd6 rfl) rfl rfl (q := 4) rfl (fun v1 h1 hQ1 => ?_)
  obtain ⟨rfl, rfl⟩ := hQ1
  refine ⟨[(.int (Int32.ofNat cs.length))], rfl, ?_⟩
  refine g_ireturn C d33_4 (Nat.le_refl _) (by decide) (by decide) ⟨rfl, rfl⟩
set_option maxRecDepth 65536 in
set_option maxHeartbeats 40000000 in
theorem c_sblat (l : Launch) (Z : State) (a0 : Array Value) (G : Gl Z a0) (cz : Int32) (fm : Value) (LG0 : LG Z cz fm) (a b : Addr) (N : Nat) (cs : List Int32) (h0 : Heap) (n0 : Nat) (X0 : Ext Z.heap h0) (D : SBD Z h0 a b N cs) :
    Ctr l Z (⟨"java/lang/AbstractStringBuilder", "isLatin1", "()Z"⟩ : MethodName) jdk_68_method_68_code 1 (some .boolean) rmS0 #[(.ref a)] h0 n0 (fun v h => h0 = h ∧ v = some (.int 1)) := by
  have hw := G.1
  have LG1 := LG0
  obtain ⟨S0, hcz, SF, hfm⟩ := LG0
  obtain ⟨F, -⟩ := D
  refine Ctr.of (n1 := n0) #[.val (.ref a)] (plainFor_of_name pn2) (fun m => by first | (simp [entryFrame, mkF, argsToLocals, Value.category, maxLocals]; done) | rfl) ?_
  intro p e s m below meth c C
  refine g_gets C d35_0 (host := "") (Or.inl (wd127 hw)) Via.refl (S0.ext X0) (q := 3) rfl ?_
  refine g_if_eq C d35_3 (q' := 17) (q := 6) (by decide) (by decide) rfl (fun hy => absurd hy hcz) (fun hn => ?_)
  refine g_aloadN C d35_6 (v := (.ref a)) rfl rfl (q := 7) rfl ?_
  refine g_getf C d35_7 (host := "") (Or.inl (wd130 hw)) Via.refl F.2.2.1 (q := 10) rfl ?_
  refine g_if_ne C d35_10 (q' := 17) (q := 13) (by decide) (by decide) rfl (fun hy => absurd rfl hy) (fun hn => ?_)
  refine g_iconst C d35_13 (z := (1 : Int32)) rfl (q := 14) rfl ?_
  refine g_goto C d35_14 (q := 18) (by decide) (by decide) ?_
  refine g_nreturn C d35_18 (by simp) (z := 1) rfl (Nat.le_refl _) (by decide) (by decide) ⟨rfl, rfl⟩
set_option maxRecDepth 65536 in
set_option maxHeartbeats 40000000 in
theorem c_strASB (l : Launch) (Z : State) (a0 : Array Value) (G : Gl Z a0) (cz : Int32) (fm : Value) (LG0 : LG Z cz fm) (a b : Addr) (N : Nat) (cs : List Int32) (h0 : Heap) (n0 : Nat) (X0 : Ext Z.heap h0) (D : SBD Z h0 a b N cs) (Z0 : n0 ≤ h0.size) (hne : ¬ cs.length = N) (h40 : cs.length ≤ 40) (t : Addr) (gt : n0 ≤ t) (E0 : Exa Z h0 t "java/lang/String") (o1 o2 : Value) (V0 : Fld Z h0 t "java/lang/String" "value" "[B" o1) (K0 : Fld Z h0 t "java/lang/String" "coder" "B" o2) :
    Ctr l Z (⟨"java/lang/String", "<init>", "(Ljava/lang/AbstractStringBuilder;Ljava/lang/Void;)V"⟩ : MethodName) jdk_42_method_150_code 5 none rmR3 #[(.ref t), (.ref a), .null] h0 n0 (fun v h => v = none ∧ Keep h0 h [t] ∧ SL Z h t cs) := by
  have hw := G.1
  have D0 := D
  obtain ⟨F, hlen, f, B, hf, hfit, hpc⟩ := D
  refine Ctr.of (n1 := n0) #[.val (.ref t), .val (.ref a), .val .null, .unset, .unset] (plainFor_of_name pn0) (fun m => by first | (simp [entryFrame, mkF, argsToLocals, Value.category, maxLocals]; done) | rfl) ?_
  intro p e s m below meth c C
  refine g_aloadN C d31_0 (v := (.ref t)) rfl rfl (q := 1) rfl ?_
  refine g_initO C d31_1 (wd12 hw) (wd13 hw) (wd14 hw) rfl (by decide) (W := 0) rfl (by decide) (q := 4) rfl ?_
  refine g_aloadN C d31_4 (v := (.ref a)) rfl rfl (q := 5) rfl ?_
  refine g_callV C (W := 0) (argsL := []) (rest := []) (a := a) d31_5 (wd192 hw) (wd193 hw) (wd195 hw) (wd194 hw) (by decide) (nf_of C (wd195 hw)) F.1 (Ctr.bk (c_getValue l Z a0 G a b N cs h0 n0 D0) C (wd196 hw) (wd124 hw) (by decide) (by decide)) (by decide) (by decide) rfl (lenOf pd12 rfl) rfl rfl (q := 8) rfl (fun v1 h1 hQ1 => ?_)
  obtain ⟨rfl, rfl⟩ := hQ1
  refine ⟨[(.ref b)], rfl, ?_⟩
  refine g_astoreN C d31_8 rfl (L' := #[.val (.ref t), .val (.ref a), .val .null, .val (.ref b), .unset]) rfl (q := 9) rfl ?_
  refine g_aloadN C d31_9 (v := (.ref a)) rfl rfl (q := 10) rfl ?_
  refine g_callV C (W := 0) (argsL := []) (rest := []) (a := a) d31_10 (wd197 hw) (wd198 hw) (wd200 hw) (wd201 hw) (by decide) (nf_of2 C (wd157 hw) rfl) F.1 (Ctr.bk (c_sblen l Z a0 G a b N cs h0 n0 D0) C (wd202 hw) (wd116 hw) (by decide) (by decide)) (by decide) (by decide) rfl (lenOf pd6 rfl) rfl rfl (q := 13) rfl (fun v1 h1 hQ1 => ?_)
  obtain ⟨rfl, rfl⟩ := hQ1
  refine ⟨[(.int (Int32.ofNat cs.length))], rfl, ?_⟩
  refine g_istore C d31_13 (L' := #[.val (.ref t), .val (.ref a), .val .null, .val (.ref b), .val (.int (Int32.ofNat cs.length))]) rfl (q := 15) rfl ?_
  refine g_aloadN C d31_15 (v := (.ref a)) rfl rfl (q := 16) rfl ?_
  refine g_callV C (W := 0) (argsL := []) (rest := []) (a := a) d31_16 (wd205 hw) (wd206 hw) (wd208 hw) (wd207 hw) (by decide) (nf_of C (wd208 hw)) F.1 (Ctr.bk (c_sblat l Z a0 G cz fm LG0 a b N cs h0 n0 X0 D0) C (wd209 hw) (wd124 hw) (by decide) (by decide)) (by decide) (by decide) rfl (lenOf pd13 rfl) rfl rfl (q := 19) rfl (fun v1 h1 hQ1 => ?_)
  obtain ⟨rfl, rfl⟩ := hQ1
  refine ⟨[(.int (1 : Int32))], rfl, ?_⟩
  refine g_if_eq C d31_19 (q' := 41) (q := 22) (by decide) (by decide) rfl (fun hy => absurd hy (by decide)) (fun hn => ?_)
  refine g_aloadN C d31_22 (v := (.ref t)) rfl rfl (q := 23) rfl ?_
  refine g_iconst C d31_23 (z := (0 : Int32)) rfl (q := 24) rfl ?_
  refine g_putf C d31_24 (host := "") (Or.inl (wd22 hw)) Via.refl K0 E0 (Or.inr ⟨(wd18 hw), rfl, rfl⟩) (wd2 hw) (ty := .byte) (by decide) rfl rfl gt (q := 27) rfl (fun h2 W2 => ?_)
  have E2 := E0.wr W2
  have V2 := V0.other W2 (Or.inr (slot_ne (Or.inr (wd17 hw)) (Or.inr (wd18 hw)) (by decide) (t := .array .byte) (t' := .byte) (by decide) (by decide)))
  have K2 := K0.same W2
  have nbt : b ≠ t := B.ne_exa E0 (wd2 hw)
  have B2 := B.other W2 nbt
  refine g_aloadN C d31_27 (v := (.ref t)) rfl rfl (q := 28) rfl ?_
  refine g_aloadN C d31_28 (v := (.ref b)) rfl rfl (q := 29) rfl ?_
  refine g_iconst C d31_29 (z := (0 : Int32)) rfl (q := 30) rfl ?_
  refine g_iload C d31_30 (v := (Int32.ofNat cs.length)) rfl (q := 32) rfl ?_
  refine g_callS C (W := 1) (argsL := [(.ref b), (.int (0 : Int32)), (.int (Int32.ofNat cs.length))]) (rest := [(.ref t)]) d31_32 (wd210 hw) (wd211 hw) (wd212 hw) (wd213 hw) (by decide) (Ctr.bk (c_copyR l Z a0 G b N cs.length f h2 n0 (by rw [W2.size]; exact Z0) B2 hfit hlen h40 hne) C (wd213 hw) (wd212 hw) (by decide) (by decide)) (by decide) (by decide) rfl (lenOf pd11 rfl) rfl rfl (q := 35) rfl (fun v3 h3 hQ3 => ?_)
  obtain ⟨r, rfl, gr, K3, A3⟩ := hQ3
  refine ⟨[(.ref r), (.ref t)], rfl, ?_⟩
  have E3 := E2.keep K3
  have V3 := V2.keep K3 (by simp)
  have C3 := K2.keep K3 (by simp)
  refine g_putf C d31_35 (host := "") (Or.inl (wd21 hw)) Via.refl V3 E3 (Or.inr ⟨(wd17 hw), rfl, rfl⟩) (wd2 hw) (ty := (.array .byte)) (by decide) rfl rfl gt (q := 38) rfl (fun h4 W4 => ?_)
  have S4 : SL Z h4 t cs := ⟨r, E3.wr W4, C3.other W4 (Or.inr (slot_ne (Or.inr (wd18 hw)) (Or.inr (wd17 hw)) (by decide) (t := .byte) (t' := .array .byte) (by decide) (by decide))), V3.same W4, (A3.congr hf).other W4 (A3.ne_exa E3 (wd2 hw)), hpc⟩
  refine g_goto C d31_38 (q := 97) (by decide) (by decide) ?_
  refine g_return C d31_97 (Nat.le_refl _) (by decide) (by decide) ⟨rfl, ((((Keep.refl h0 [t]).wr W2 (Or.inl (by simp))).trans K3 (by simp)).wr W4 (Or.inl (by simp))), S4⟩
set_option maxRecDepth 65536 in
set_option maxHeartbeats 40000000 in
theorem c_strSB (l : Launch) (Z : State) (a0 : Array Value) (G : Gl Z a0) (cz : Int32) (fm : Value) (LG0 : LG Z cz fm) (a b : Addr) (N : Nat) (cs : List Int32) (h0 : Heap) (n0 : Nat) (X0 : Ext Z.heap h0) (D : SBD Z h0 a b N cs) (Z0 : n0 ≤ h0.size) (hne : ¬ cs.length = N) (h40 : cs.length ≤ 40) (t : Addr) (gt : n0 ≤ t) (E0 : Exa Z h0 t "java/lang/String") (o1 o2 : Value) (V0 : Fld Z h0 t "java/lang/String" "value" "[B" o1) (K0 : Fld Z h0 t "java/lang/String" "coder" "B" o2) :
    Ctr l Z (⟨"java/lang/String", "<init>", "(Ljava/lang/StringBuilder;)V"⟩ : MethodName) jdk_42_method_53_code 2 none rmR4 #[(.ref t), (.ref a)] h0 n0 (fun v h => v = none ∧ Keep h0 h [t] ∧ SL Z h t cs) := by
  have hw := G.1
  refine Ctr.of (n1 := n0) #[.val (.ref t), .val (.ref a)] (plainFor_of_name pn0) (fun m => by first | (simp [entryFrame, mkF, argsToLocals, Value.category, maxLocals]; done) | rfl) ?_
  intro p e s m below meth c C
  refine g_aloadN C d30_0 (v := (.ref t)) rfl rfl (q := 1) rfl ?_
  refine g_aloadN C d30_1 (v := (.ref a)) rfl rfl (q := 2) rfl ?_
  refine g_aconst_null C d30_2 (q := 3) rfl ?_
  refine g_callI C (W := 0) (argsL := [(.ref a), .null]) (rest := []) (a := t) d30_3 rfl (wd189 hw) (wd190 hw) (wd191 hw) (by decide) (Ctr.bk (c_strASB l Z a0 G cz fm LG0 a b N cs h0 n0 X0 D Z0 hne h40 t gt E0 o1 o2 V0 K0) C (wd191 hw) (wd3 hw) (by decide) (by decide)) (by decide) (by decide) rfl (lenOf pd14 rfl) rfl rfl (q := 6) rfl (fun v1 h1 hQ1 => ?_)
  obtain ⟨rfl, K1, S1⟩ := hQ1
  refine ⟨[], rfl, ?_⟩
  refine g_return C d30_6 (Nat.le_refl _) (by decide) (by decide) ⟨rfl, K1, S1⟩
set_option maxRecDepth 65536 in
set_option maxHeartbeats 40000000 in
theorem c_sbstr (l : Launch) (Z : State) (a0 : Array Value) (G : Gl Z a0) (cz : Int32) (fm : Value) (LG0 : LG Z cz fm) (a b : Addr) (N : Nat) (cs : List Int32) (h0 : Heap) (n0 : Nat) (X0 : Ext Z.heap h0) (D : SBD Z h0 a b N cs) (Z0 : n0 ≤ h0.size) (hne : ¬ cs.length = N) (h40 : cs.length ≤ 40) :
    Ctr l Z (⟨"java/lang/StringBuilder", "toString", "()Ljava/lang/String;"⟩ : MethodName) jdk_67_method_42_code 1 (some (.object "java/lang/String")) rmR5 #[(.ref a)] h0 n0 (fun v h => ∃ t, v = some (.ref t) ∧ h0.size ≤ t ∧ Keep h0 h [] ∧ SL Z h t cs) := by
  have hw := G.1
  refine Ctr.of (n1 := n0) #[.val (.ref a)] (plainFor_of_name pn3) (fun m => by first | (simp [entryFrame, mkF, argsToLocals, Value.category, maxLocals]; done) | rfl) ?_
  intro p e s m below meth c C
  refine g_new C d29_0 (wd185 hw) (wd2 hw) (wd3 hw) (by decide) (by decide) (q := 3) rfl (fun t h1 q1 E1 A1 D1 => ?_)
  refine g_dup C d29_3 rfl (q := 4) rfl ?_
  refine g_aloadN C d29_4 (v := (.ref a)) rfl rfl (q := 5) rfl ?_
  have F1 : SBD Z h1 a b N cs := by
    obtain ⟨F, hlen, f, B, r⟩ := D
    exact ⟨F.ext E1, hlen, f, B.ext E1, r⟩
  refine g_callI C (W := 1) (argsL := [(.ref a)]) (rest := [(.ref t)]) (a := t) d29_5 rfl (wd186 hw) (wd187 hw) (wd188 hw) (by decide) (Ctr.bk (c_strSB l Z a0 G cz fm LG0 a b N cs h1 n0 (Ext.tr X0 E1) F1 (Nat.le_trans Z0 E1.1) hne h40 t (by rw [q1]; exact Z0) A1 _ _ (D1 (Or.inr (wd17 hw)) (ty := .array .byte) (by decide)) (D1 (Or.inr (wd18 hw)) (ty := .byte) (by decide))) C (wd188 hw) (wd3 hw) (by decide) (by decide)) (by decide) (by decide) rfl (lenOf pd15 rfl) rfl rfl (q := 8) rfl (fun v2 h2 hQ2 => ?_)
  obtain ⟨rfl, K2, S2⟩ := hQ2
  refine ⟨[(.ref t)], rfl, ?_⟩
  refine g_areturn C d29_8 rfl rfl (Nat.le_refl _) (by decide) (by decide) ⟨t, rfl, by rw [q1]; exact Nat.le_refl _, (Ext.kp E1 []).trans K2 (fun x hx => Or.inr (by cases List.mem_singleton.mp hx; rw [q1]; exact Nat.le_refl _)), S2⟩
set_option maxRecDepth 65536 in
set_option maxHeartbeats 40000000 in
theorem c_strASBE (l : Launch) (Z : State) (a0 : Array Value) (G : Gl Z a0) (cz : Int32) (fm : Value) (LG0 : LG Z cz fm) (a b : Addr) (N : Nat) (cs : List Int32) (h0 : Heap) (n0 : Nat) (X0 : Ext Z.heap h0) (D : SBD Z h0 a b N cs) (Z0 : n0 ≤ h0.size) (hne : cs.length = N) (EB : Exa Z h0 b "[B") (h40 : cs.length ≤ 40) (t : Addr) (gt : n0 ≤ t) (E0 : Exa Z h0 t "java/lang/String") (o1 o2 : Value) (V0 : Fld Z h0 t "java/lang/String" "value" "[B" o1) (K0 : Fld Z h0 t "java/lang/String" "coder" "B" o2) :
    Ctr l Z (⟨"java/lang/String", "<init>", "(Ljava/lang/AbstractStringBuilder;Ljava/lang/Void;)V"⟩ : MethodName) jdk_42_method_150_code 5 none rmR3 #[(.ref t), (.ref a), .null] h0 n0 (fun v h => v = none ∧ Keep h0 h [t] ∧ SL Z h t cs) := by
  have hw := G.1
  have D0 := D
  obtain ⟨F, hlen, f, B, hf, hfit, hpc⟩ := D
  refine Ctr.of (n1 := n0) #[.val (.ref t), .val (.ref a), .val .null, .unset, .unset] (plainFor_of_name pn0) (fun m => by first | (simp [entryFrame, mkF, argsToLocals, Value.category, maxLocals]; done) | rfl) ?_
  intro p e s m below meth c C
  refine g_aloadN C d31_0 (v := (.ref t)) rfl rfl (q := 1) rfl ?_
  refine g_initO C d31_1 (wd12 hw) (wd13 hw) (wd14 hw) rfl (by decide) (W := 0) rfl (by decide) (q := 4) rfl ?_
  refine g_aloadN C d31_4 (v := (.ref a)) rfl rfl (q := 5) rfl ?_
  refine g_callV C (W := 0) (argsL := []) (rest := []) (a := a) d31_5 (wd192 hw) (wd193 hw) (wd195 hw) (wd194 hw) (by decide) (nf_of C (wd195 hw)) F.1 (Ctr.bk (c_getValue l Z a0 G a b N cs h0 n0 D0) C (wd196 hw) (wd124 hw) (by decide) (by decide)) (by decide) (by decide) rfl (lenOf pd12 rfl) rfl rfl (q := 8) rfl (fun v1 h1 hQ1 => ?_)
  obtain ⟨rfl, rfl⟩ := hQ1
  refine ⟨[(.ref b)], rfl, ?_⟩
  refine g_astoreN C d31_8 rfl (L' := #[.val (.ref t), .val (.ref a), .val .null, .val (.ref b), .unset]) rfl (q := 9) rfl ?_
  refine g_aloadN C d31_9 (v := (.ref a)) rfl rfl (q := 10) rfl ?_
  refine g_callV C (W := 0) (argsL := []) (rest := []) (a := a) d31_10 (wd197 hw) (wd198 hw) (wd200 hw) (wd201 hw) (by decide) (nf_of2 C (wd157 hw) rfl) F.1 (Ctr.bk (c_sblen l Z a0 G a b N cs h0 n0 D0) C (wd202 hw) (wd116 hw) (by decide) (by decide)) (by decide) (by decide) rfl (lenOf pd6 rfl) rfl rfl (q := 13) rfl (fun v1 h1 hQ1 => ?_)
  obtain ⟨rfl, rfl⟩ := hQ1
  refine ⟨[(.int (Int32.ofNat cs.length))], rfl, ?_⟩
  refine g_istore C d31_13 (L' := #[.val (.ref t), .val (.ref a), .val .null, .val (.ref b), .val (.int (Int32.ofNat cs.length))]) rfl (q := 15) rfl ?_
  refine g_aloadN C d31_15 (v := (.ref a)) rfl rfl (q := 16) rfl ?_
  refine g_callV C (W := 0) (argsL := []) (rest := []) (a := a) d31_16 (wd205 hw) (wd206 hw) (wd208 hw) (wd207 hw) (by decide) (nf_of C (wd208 hw)) F.1 (Ctr.bk (c_sblat l Z a0 G cz fm LG0 a b N cs h0 n0 X0 D0) C (wd209 hw) (wd124 hw) (by decide) (by decide)) (by decide) (by decide) rfl (lenOf pd13 rfl) rfl rfl (q := 19) rfl (fun v1 h1 hQ1 => ?_)
  obtain ⟨rfl, rfl⟩ := hQ1
  refine ⟨[(.int (1 : Int32))], rfl, ?_⟩
  refine g_if_eq C d31_19 (q' := 41) (q := 22) (by decide) (by decide) rfl (fun hy => absurd hy (by decide)) (fun hn => ?_)
  refine g_aloadN C d31_22 (v := (.ref t)) rfl rfl (q := 23) rfl ?_
  refine g_iconst C d31_23 (z := (0 : Int32)) rfl (q := 24) rfl ?_
  refine g_putf C d31_24 (host := "") (Or.inl (wd22 hw)) Via.refl K0 E0 (Or.inr ⟨(wd18 hw), rfl, rfl⟩) (wd2 hw) (ty := .byte) (by decide) rfl rfl gt (q := 27) rfl (fun h2 W2 => ?_)
  have E2 := E0.wr W2
  have V2 := V0.other W2 (Or.inr (slot_ne (Or.inr (wd17 hw)) (Or.inr (wd18 hw)) (by decide) (t := .array .byte) (t' := .byte) (by decide) (by decide)))
  have K2 := K0.same W2
  have nbt : b ≠ t := B.ne_exa E0 (wd2 hw)
  have B2 := B.other W2 nbt
  refine g_aloadN C d31_27 (v := (.ref t)) rfl rfl (q := 28) rfl ?_
  refine g_aloadN C d31_28 (v := (.ref b)) rfl rfl (q := 29) rfl ?_
  refine g_iconst C d31_29 (z := (0 : Int32)) rfl (q := 30) rfl ?_
  refine g_iload C d31_30 (v := (Int32.ofNat cs.length)) rfl (q := 32) rfl ?_
  refine g_callS C (W := 1) (argsL := [(.ref b), (.int (0 : Int32)), (.int (Int32.ofNat cs.length))]) (rest := [(.ref t)]) d31_32 (wd210 hw) (wd211 hw) (wd212 hw) (wd213 hw) (by decide) (Ctr.bk (c_copyRE l Z a0 G b N cs.length f h2 n0 (by rw [W2.size]; exact Z0) B2 hfit hlen h40 hne (EB.wr W2)) C (wd213 hw) (wd212 hw) (by decide) (by decide)) (by decide) (by decide) rfl (lenOf pd11 rfl) rfl rfl (q := 35) rfl (fun v3 h3 hQ3 => ?_)
  obtain ⟨r, rfl, gr, K3, A3⟩ := hQ3
  refine ⟨[(.ref r), (.ref t)], rfl, ?_⟩
  have E3 := E2.keep K3
  have V3 := V2.keep K3 (by simp)
  have C3 := K2.keep K3 (by simp)
  refine g_putf C d31_35 (host := "") (Or.inl (wd21 hw)) Via.refl V3 E3 (Or.inr ⟨(wd17 hw), rfl, rfl⟩) (wd2 hw) (ty := (.array .byte)) (by decide) rfl rfl gt (q := 38) rfl (fun h4 W4 => ?_)
  have S4 : SL Z h4 t cs := ⟨r, E3.wr W4, C3.other W4 (Or.inr (slot_ne (Or.inr (wd18 hw)) (Or.inr (wd17 hw)) (by decide) (t := .byte) (t' := .array .byte) (by decide) (by decide))), V3.same W4, (A3.congr hf).other W4 (A3.ne_exa E3 (wd2 hw)), hpc⟩
  refine g_goto C d31_38 (q := 97) (by decide) (by decide) ?_
  refine g_return C d31_97 (Nat.le_refl _) (by decide) (by decide) ⟨rfl, ((((Keep.refl h0 [t]).wr W2 (Or.inl (by simp))).trans K3 (by simp)).wr W4 (Or.inl (by simp))), S4⟩
set_option maxRecDepth 65536 in
set_option maxHeartbeats 40000000 in
theorem c_strSBE (l : Launch) (Z : State) (a0 : Array Value) (G : Gl Z a0) (cz : Int32) (fm : Value) (LG0 : LG Z cz fm) (a b : Addr) (N : Nat) (cs : List Int32) (h0 : Heap) (n0 : Nat) (X0 : Ext Z.heap h0) (D : SBD Z h0 a b N cs) (Z0 : n0 ≤ h0.size) (hne : cs.length = N) (EB : Exa Z h0 b "[B") (h40 : cs.length ≤ 40) (t : Addr) (gt : n0 ≤ t) (E0 : Exa Z h0 t "java/lang/String") (o1 o2 : Value) (V0 : Fld Z h0 t "java/lang/String" "value" "[B" o1) (K0 : Fld Z h0 t "java/lang/String" "coder" "B" o2) :
    Ctr l Z (⟨"java/lang/String", "<init>", "(Ljava/lang/StringBuilder;)V"⟩ : MethodName) jdk_42_method_53_code 2 none rmR4 #[(.ref t), (.ref a)] h0 n0 (fun v h => v = none ∧ Keep h0 h [t] ∧ SL Z h t cs) := by
  have hw := G.1
  refine Ctr.of (n1 := n0) #[.val (.ref t), .val (.ref a)] (plainFor_of_name pn0) (fun m => by first | (simp [entryFrame, mkF, argsToLocals, Value.category, maxLocals]; done) | rfl) ?_
  intro p e s m below meth c C
  refine g_aloadN C d30_0 (v := (.ref t)) rfl rfl (q := 1) rfl ?_
  refine g_aloadN C d30_1 (v := (.ref a)) rfl rfl (q := 2) rfl ?_
  refine g_aconst_null C d30_2 (q := 3) rfl ?_
  refine g_callI C (W := 0) (argsL := [(.ref a), .null]) (rest := []) (a := t) d30_3 rfl (wd189 hw) (wd190 hw) (wd191 hw) (by decide) (Ctr.bk (c_strASBE l Z a0 G cz fm LG0 a b N cs h0 n0 X0 D Z0 hne EB h40 t gt E0 o1 o2 V0 K0) C (wd191 hw) (wd3 hw) (by decide) (by decide)) (by decide) (by decide) rfl (lenOf pd14 rfl) rfl rfl (q := 6) rfl (fun v1 h1 hQ1 => ?_)
  obtain ⟨rfl, K1, S1⟩ := hQ1
  refine ⟨[], rfl, ?_⟩
  refine g_return C d30_6 (Nat.le_refl _) (by decide) (by decide) ⟨rfl, K1, S1⟩
set_option maxRecDepth 65536 in
set_option maxHeartbeats 40000000 in
theorem c_sbstrE (l : Launch) (Z : State) (a0 : Array Value) (G : Gl Z a0) (cz : Int32) (fm : Value) (LG0 : LG Z cz fm) (a b : Addr) (N : Nat) (cs : List Int32) (h0 : Heap) (n0 : Nat) (X0 : Ext Z.heap h0) (D : SBD Z h0 a b N cs) (Z0 : n0 ≤ h0.size) (hne : cs.length = N) (EB : Exa Z h0 b "[B") (h40 : cs.length ≤ 40) :
    Ctr l Z (⟨"java/lang/StringBuilder", "toString", "()Ljava/lang/String;"⟩ : MethodName) jdk_67_method_42_code 1 (some (.object "java/lang/String")) rmR5 #[(.ref a)] h0 n0 (fun v h => ∃ t, v = some (.ref t) ∧ h0.size ≤ t ∧ Keep h0 h [] ∧ SL Z h t cs) := by
  have hw := G.1
  refine Ctr.of (n1 := n0) #[.val (.ref a)] (plainFor_of_name pn3) (fun m => by first | (simp [entryFrame, mkF, argsToLocals, Value.category, maxLocals]; done) | rfl) ?_
  intro p e s m below meth c C
  refine g_new C d29_0 (wd185 hw) (wd2 hw) (wd3 hw) (by decide) (by decide) (q := 3) rfl (fun t h1 q1 E1 A1 D1 => ?_)
  refine g_dup C d29_3 rfl (q := 4) rfl ?_
  refine g_aloadN C d29_4 (v := (.ref a)) rfl rfl (q := 5) rfl ?_
  have F1 : SBD Z h1 a b N cs := by
    obtain ⟨F, hlen, f, B, r⟩ := D
    exact ⟨F.ext E1, hlen, f, B.ext E1, r⟩
  refine g_callI C (W := 1) (argsL := [(.ref a)]) (rest := [(.ref t)]) (a := t) d29_5 rfl (wd186 hw) (wd187 hw) (wd188 hw) (by decide) (Ctr.bk (c_strSBE l Z a0 G cz fm LG0 a b N cs h1 n0 (Ext.tr X0 E1) F1 (Nat.le_trans Z0 E1.1) hne (EB.ext E1) h40 t (by rw [q1]; exact Z0) A1 _ _ (D1 (Or.inr (wd17 hw)) (ty := .array .byte) (by decide)) (D1 (Or.inr (wd18 hw)) (ty := .byte) (by decide))) C (wd188 hw) (wd3 hw) (by decide) (by decide)) (by decide) (by decide) rfl (lenOf pd15 rfl) rfl rfl (q := 8) rfl (fun v2 h2 hQ2 => ?_)
  obtain ⟨rfl, K2, S2⟩ := hQ2
  refine ⟨[(.ref t)], rfl, ?_⟩
  refine g_areturn C d29_8 rfl rfl (Nat.le_refl _) (by decide) (by decide) ⟨t, rfl, by rw [q1]; exact Nat.le_refl _, (Ext.kp E1 []).trans K2 (fun x hx => Or.inr (by cases List.mem_singleton.mp hx; rw [q1]; exact Nat.le_refl _)), S2⟩
abbrev rmG1 : Room := { frames := 1, cells := 1, slots := 34, locals := 40 }
abbrev rmG2 : Room := { frames := 3, cells := 1, slots := 34, locals := 72 }
abbrev rmG4 : Room := { frames := 4, cells := 1, slots := 34, locals := 100 }
abbrev rmG5 : Room := { frames := 5, cells := 1, slots := 34, locals := 124 }
theorem SL.other {Z : State} {h h' : Heap} {t a : Addr} {cs : List Int32} {Cl : String} {a0 : Array Value} {kk : Nat} (S : SL Z h t cs) (K : Keep h h' [a]) (E : Exa Z h a Cl) (wi : (Jvm.Cond.instantiable Cl kk).before a0 Z = true) (ne : t ≠ a) : SL Z h' t cs := by
  obtain ⟨b, r1, r2, r3, r4, r5⟩ := S
  have nb : b ≠ a := r4.ne_exa E wi
  exact ⟨b, r1.keep K, r2.keep K (by simpa using ne), r3.keep K (by simpa using ne), r4.keep K (by simpa using nb), r5⟩
set_option maxRecDepth 65536 in
set_option maxHeartbeats 40000000 in
theorem c_max (l : Launch) (Z : State) (a0 : Array Value) (G : Gl Z a0) (k : Nat) (hk : k = 17 ∨ k = 18) (h0 : Heap) (n0 : Nat) :
    Ctr l Z (⟨"java/lang/Math", "max", "(II)I"⟩ : MethodName) jdk_29_method_65_code 2 (some .int) rmS0 #[(.int (Int32.ofNat k - 16)), (.int (18 : Int32))] h0 n0 (fun v h => h0 = h ∧ v = some (.int 18)) := by
  have hw := G.1
  refine Ctr.of (n1 := n0) #[.val (.int (Int32.ofNat k - 16)), .val (.int (18 : Int32))] (by decide +kernel) (fun m => by first | (simp [entryFrame, mkF, argsToLocals, Value.category, maxLocals]; done) | rfl) ?_
  intro p e s m below meth c C
  rcases hk with rfl | rfl
  ·
    refine g_iloadN C d40_0 (v := (Int32.ofNat 17 - 16)) rfl (q := 1) rfl ?_
    refine g_iloadN C d40_1 (v := (18 : Int32)) rfl (q := 2) rfl ?_
    refine g_icmp_lt C d40_2 (q' := 9) (q := 5) (by decide) (by decide) rfl (fun hy => ?_) (fun hn => absurd (by decide) hn)
    refine g_iloadN C d40_9 (v := (18 : Int32)) rfl (q := 10) rfl ?_
    refine g_ireturn C d40_10 (Nat.le_refl _) (by decide) (by decide) ⟨rfl, rfl⟩
  ·
    refine g_iloadN C d40_0 (v := (Int32.ofNat 18 - 16)) rfl (q := 1) rfl ?_
    refine g_iloadN C d40_1 (v := (18 : Int32)) rfl (q := 2) rfl ?_
    refine g_icmp_lt C d40_2 (q' := 9) (q := 5) (by decide) (by decide) rfl (fun hy => ?_) (fun hn => absurd (by decide) hn)
    refine g_iloadN C d40_9 (v := (18 : Int32)) rfl (q := 10) rfl ?_
    refine g_ireturn C d40_10 (Nat.le_refl _) (by decide) (by decide) ⟨rfl, rfl⟩
set_option maxRecDepth 65536 in
set_option maxHeartbeats 40000000 in
theorem c_newLen (l : Launch) (Z : State) (a0 : Array Value) (G : Gl Z a0) (k : Nat) (hk : k = 17 ∨ k = 18) (h0 : Heap) (n0 : Nat) :
    Ctr l Z (⟨"jdk/internal/util/ArraysSupport", "newLength", "(III)I"⟩ : MethodName) jdk_48_method_27_code 4 (some .int) rmS1 #[(.int (16 : Int32)), (.int (Int32.ofNat k - 16)), (.int (18 : Int32))] h0 n0 (fun v h => h0 = h ∧ v = some (.int 34)) := by
  have hw := G.1
  refine Ctr.of (n1 := n0) #[.val (.int (16 : Int32)), .val (.int (Int32.ofNat k - 16)), .val (.int (18 : Int32)), .unset] (plainFor_of_name pn5) (fun m => by first | (simp [entryFrame, mkF, argsToLocals, Value.category, maxLocals]; done) | rfl) ?_
  intro p e s m below meth c C
  refine g_iloadN C d39_0 (v := (16 : Int32)) rfl (q := 1) rfl ?_
  refine g_iloadN C d39_1 (v := (Int32.ofNat k - 16)) rfl (q := 2) rfl ?_
  refine g_iloadN C d39_2 (v := (18 : Int32)) rfl (q := 3) rfl ?_
  refine g_callS C (W := 1) (argsL := [(.int (Int32.ofNat k - 16)), (.int (18 : Int32))]) (rest := [(.int (16 : Int32))]) d39_3 (wd237 hw) (wd238 hw) (wd239 hw) (wd240 hw) (by decide) (Ctr.bk (c_max l Z a0 G k hk h0 n0) C (wd240 hw) (wd239 hw) (by decide) (by decide)) (by decide) (by decide) rfl (lenOf pd10 rfl) rfl rfl (q := 6) rfl (fun v1 h1 hQ1 => ?_)
  obtain ⟨rfl, rfl⟩ := hQ1
  refine ⟨[(.int (18 : Int32)), (.int (16 : Int32))], rfl, ?_⟩
  refine g_iadd C d39_6 (q := 7) rfl ?_
  refine g_istoreN C d39_7 (L' := #[.val (.int (16 : Int32)), .val (.int (Int32.ofNat k - 16)), .val (.int (18 : Int32)), .val (.int ((16 : Int32) + (18 : Int32)))]) rfl (q := 8) rfl ?_
  refine g_iconst C d39_8 (z := (0 : Int32)) rfl (q := 9) rfl ?_
  refine g_iloadN C d39_9 (v := ((16 : Int32) + (18 : Int32))) rfl (q := 10) rfl ?_
  refine g_icmp_ge C d39_10 (q' := 21) (q := 13) (by decide) (by decide) rfl (fun hy => absurd (by decide) hy) (fun hn => ?_)
  refine g_iloadN C d39_13 (v := ((16 : Int32) + (18 : Int32))) rfl (q := 14) rfl ?_
  refine g_ldcInt C d39_14 (wd241 hw) (q := 16) rfl ?_
  refine g_icmp_gt C d39_16 (q' := 21) (q := 19) (by decide) (by decide) rfl (fun hy => absurd hy (by decide)) (fun hn => ?_)
  refine g_iloadN C d39_19 (v := ((16 : Int32) + (18 : Int32))) rfl (q := 20) rfl ?_
  refine g_ireturn C d39_20 (Nat.le_refl _) (by decide) (by decide) ⟨rfl, rfl⟩
set_option maxRecDepth 65536 in
set_option maxHeartbeats 40000000 in
theorem c_newCap (l : Launch) (Z : State) (a0 : Array Value) (G : Gl Z a0) (cz : Int32) (fm : Value) (LG0 : LG Z cz fm) (a b : Addr) (cs : List Int32) (h0 : Heap) (n0 : Nat) (X0 : Ext Z.heap h0) (D : SBD Z h0 a b 16 cs) (k : Nat) (hk : k = 17 ∨ k = 18) :
    Ctr l Z (⟨"java/lang/AbstractStringBuilder", "newCapacity", "(I)I"⟩ : MethodName) jdk_68_method_10_code 6 (some .int) rmS2 #[(.ref a), (.int (Int32.ofNat k))] h0 n0 (fun v h => h0 = h ∧ v = some (.int 34)) := by
  have hw := G.1
  obtain ⟨F, hlen, f, B, hf, hfit, hpc⟩ := D
  refine Ctr.of (n1 := n0) #[.val (.ref a), .val (.int (Int32.ofNat k)), .unset, .unset, .unset, .unset] (plainFor_of_name pn2) (fun m => by first | (simp [entryFrame, mkF, argsToLocals, Value.category, maxLocals]; done) | rfl) ?_
  intro p e s m below meth c C
  refine g_aloadN C d38_0 (v := (.ref a)) rfl rfl (q := 1) rfl ?_
  refine g_getf C d38_1 (host := "") (Or.inl (wd128 hw)) Via.refl F.2.1 (q := 4) rfl ?_
  refine g_alen C d38_4 B (z := (16 : Int32)) rfl (q := 5) rfl ?_
  refine g_istoreN C d38_5 (L' := #[.val (.ref a), .val (.int (Int32.ofNat k)), .val (.int (16 : Int32)), .unset, .unset, .unset]) rfl (q := 6) rfl ?_
  refine g_iloadN C d38_6 (v := (Int32.ofNat k)) rfl (q := 7) rfl ?_
  refine g_aloadN C d38_7 (v := (.ref a)) rfl rfl (q := 8) rfl ?_
  refine g_getf C d38_8 (host := "") (Or.inl (wd130 hw)) Via.refl F.2.2.1 (q := 11) rfl ?_
  refine g_ishl C d38_11 (q := 12) rfl ?_
  rw [shl0]
  refine g_istoreN C d38_12 (L' := #[.val (.ref a), .val (.int (Int32.ofNat k)), .val (.int (16 : Int32)), .val (.int (Int32.ofNat k)), .unset, .unset]) rfl (q := 13) rfl ?_
  refine g_iloadN C d38_13 (v := (Int32.ofNat k)) rfl (q := 14) rfl ?_
  refine g_iloadN C d38_14 (v := (16 : Int32)) rfl (q := 15) rfl ?_
  refine g_isub C d38_15 (q := 16) rfl ?_
  refine g_istore C d38_16 (L' := #[.val (.ref a), .val (.int (Int32.ofNat k)), .val (.int (16 : Int32)), .val (.int (Int32.ofNat k)), .val (.int ((Int32.ofNat k) - (16 : Int32))), .unset]) rfl (q := 18) rfl ?_
  refine g_iloadN C d38_18 (v := (16 : Int32)) rfl (q := 19) rfl ?_
  refine g_iload C d38_19 (v := ((Int32.ofNat k) - (16 : Int32))) rfl (q := 21) rfl ?_
  refine g_iloadN C d38_21 (v := (16 : Int32)) rfl (q := 22) rfl ?_
  refine g_iconst C d38_22 (z := (2 : Int32)) rfl (q := 23) rfl ?_
  refine g_aloadN C d38_23 (v := (.ref a)) rfl rfl (q := 24) rfl ?_
  refine g_getf C d38_24 (host := "") (Or.inl (wd130 hw)) Via.refl F.2.2.1 (q := 27) rfl ?_
  refine g_ishl C d38_27 (q := 28) rfl ?_
  rw [shl0]
  refine g_iadd C d38_28 (q := 29) rfl ?_
  refine g_callS C (W := 0) (argsL := [(.int (16 : Int32)), (.int ((Int32.ofNat k) - (16 : Int32))), (.int (18 : Int32))]) (rest := []) d38_29 (wd233 hw) (wd234 hw) (wd235 hw) (wd236 hw) (by decide) (Ctr.bk (c_newLen l Z a0 G k hk h0 n0) C (wd236 hw) (wd235 hw) (by decide) (by decide)) (by decide) (by decide) rfl (lenOf pd16 rfl) rfl rfl (q := 32) rfl (fun v1 h1 hQ1 => ?_)
  obtain ⟨rfl, rfl⟩ := hQ1
  refine ⟨[(.int (34 : Int32))], rfl, ?_⟩
  refine g_istore C d38_32 (L' := #[.val (.ref a), .val (.int (Int32.ofNat k)), .val (.int (16 : Int32)), .val (.int (Int32.ofNat k)), .val (.int ((Int32.ofNat k) - (16 : Int32))), .val (.int (34 : Int32))]) rfl (q := 34) rfl ?_
  refine g_iload C d38_34 (v := (34 : Int32)) rfl (q := 36) rfl ?_
  refine g_ldcInt C d38_36 (wd242 hw) (q := 38) rfl ?_
  refine g_icmp_ne C d38_38 (q' := 51) (q := 41) (by decide) (by decide) rfl (fun hy => ?_) (fun hn_ => absurd hn_ (by decide))
  refine g_iload C d38_51 (v := (34 : Int32)) rfl (q := 53) rfl ?_
  refine g_aloadN C d38_53 (v := (.ref a)) rfl rfl (q := 54) rfl ?_
  refine g_getf C d38_54 (host := "") (Or.inl (wd130 hw)) Via.refl F.2.2.1 (q := 57) rfl ?_
  refine g_ishr C d38_57 (q := 58) rfl ?_
  rw [shr0]
  refine g_ireturn C d38_58 (Nat.le_refl _) (by decide) (by decide) ⟨rfl, rfl⟩
set_option maxRecDepth 65536 in
set_option maxHeartbeats 40000000 in
theorem c_min16 (l : Launch) (Z : State) (a0 : Array Value) (G : Gl Z a0) (h0 : Heap) (n0 : Nat) :
    Ctr l Z (⟨"java/lang/Math", "min", "(II)I"⟩ : MethodName) jdk_29_method_69_code 2 (some .int) rmS0 #[(.int (16 : Int32)), (.int (34 : Int32))] h0 n0 (fun v h => h0 = h ∧ v = some (.int 16)) := by
  have hw := G.1
  refine Ctr.of (n1 := n0) #[.val (.int (16 : Int32)), .val (.int (34 : Int32))] (by decide +kernel) (fun m => by first | (simp [entryFrame, mkF, argsToLocals, Value.category, maxLocals]; done) | rfl) ?_
  intro p e s m below meth c C
  refine g_iloadN C d42_0 (v := (16 : Int32)) rfl (q := 1) rfl ?_
  refine g_iloadN C d42_1 (v := (34 : Int32)) rfl (q := 2) rfl ?_
  refine g_icmp_gt C d42_2 (q' := 9) (q := 5) (by decide) (by decide) rfl (fun hy => absurd hy (by decide)) (fun hn => ?_)
  refine g_iloadN C d42_5 (v := (16 : Int32)) rfl (q := 6) rfl ?_
  refine g_goto C d42_6 (q := 10) (by decide) (by decide) ?_
  refine g_ireturn C d42_10 (Nat.le_refl _) (by decide) (by decide) ⟨rfl, rfl⟩
set_option maxRecDepth 65536 in
set_option maxHeartbeats 40000000 in
theorem c_copyOf (l : Launch) (Z : State) (a0 : Array Value) (G : Gl Z a0) (b : Addr) (f : Nat → Value) (h0 : Heap) (n0 : Nat) (Z0 : n0 ≤ h0.size) (B : Av Z h0 b .byte 16 f) (hfit : ∀ j, j < 16 → fits .byte (f j) = true) :
    Ctr l Z (⟨"java/util/Arrays", "copyOf", "([BI)[B"⟩ : MethodName) jdk_65_method_121_code 3 (some (.array .byte)) rmG1 #[(.ref b), (.int (34 : Int32))] h0 n0 (fun v h => ∃ r, v = some (.ref r) ∧ h0.size ≤ r ∧ Keep h0 h [] ∧ Av Z h r .byte 34 (fun j => if j < 16 then f j else .int 0)) := by
  have hw := G.1
  refine Ctr.of (n1 := n0) #[.val (.ref b), .val (.int (34 : Int32)), .unset] (plainFor_of_name pn4) (fun m => by first | (simp [entryFrame, mkF, argsToLocals, Value.category, maxLocals]; done) | rfl) ?_
  intro p e s m below meth c C
  refine g_iloadN C d41_0 (v := (34 : Int32)) rfl (q := 1) rfl ?_
  refine g_aloadN C d41_1 (v := (.ref b)) rfl rfl (q := 2) rfl ?_
  refine g_alen C d41_2 B (z := (16 : Int32)) rfl (q := 3) rfl ?_
  refine g_icmp_ne C d41_3 (q' := 14) (q := 6) (by decide) (by decide) rfl (fun hy => ?_) (fun hn_ => absurd hn_ (by decide))
  refine g_iloadN C d41_14 (v := (34 : Int32)) rfl (q := 15) rfl ?_
  refine g_newarray C d41_15 (wd16 hw) (by decide) (cap := 34) (by decide) (by decide) (by decide) (by decide) (q := 17) rfl (fun r h1 k1 q1 E1 A1 => ?_)
  have B1 : Av Z h1 r .byte 34 (fun _ => .int 0) := Av.new A1 (by decide)
  have gr : h0.size ≤ r := by rw [q1]; exact Nat.le_refl _
  refine g_astoreN C d41_17 rfl (L' := #[.val (.ref b), .val (.int (34 : Int32)), .val (.ref r)]) rfl (q := 18) rfl ?_
  refine g_aloadN C d41_18 (v := (.ref b)) rfl rfl (q := 19) rfl ?_
  refine g_iconst C d41_19 (z := (0 : Int32)) rfl (q := 20) rfl ?_
  refine g_aloadN C d41_20 (v := (.ref r)) rfl rfl (q := 21) rfl ?_
  refine g_iconst C d41_21 (z := (0 : Int32)) rfl (q := 22) rfl ?_
  refine g_aloadN C d41_22 (v := (.ref b)) rfl rfl (q := 23) rfl ?_
  refine g_alen C d41_23 (B.ext E1) (z := (16 : Int32)) rfl (q := 24) rfl ?_
  refine g_iloadN C d41_24 (v := (34 : Int32)) rfl (q := 25) rfl ?_
  refine g_callS C (W := 4) (argsL := [(.int (16 : Int32)), (.int (34 : Int32))]) (rest := [(.int (0 : Int32)), (.ref r), (.int (0 : Int32)), (.ref b)]) d41_25 (wd246 hw) (wd247 hw) (wd239 hw) (wd248 hw) (by decide) (Ctr.bk (c_min16 l Z a0 G h1 n0) C (wd248 hw) (wd239 hw) (by decide) (by decide)) (by decide) (by decide) rfl (lenOf pd10 rfl) rfl rfl (q := 28) rfl (fun v2 h2 hQ2 => ?_)
  obtain ⟨rfl, rfl⟩ := hQ2
  refine ⟨[(.int (16 : Int32)), (.int (0 : Int32)), (.ref r), (.int (0 : Int32)), (.ref b)], rfl, ?_⟩
  refine g_acopy C  d41_28 (wd249 hw) (wd178 hw) (wd176 hw) (wd177 hw) (B.ext E1) B1 rfl hfit (fun j hj => rfl) (sp := 0) rfl (dp := 0) rfl (nn := 16) rfl (by omega) (by omega) (by rw [q1]; exact Z0) rfl (by decide) (W := 0) rfl (by decide) (q := 31) rfl (fun h3 K3 A3 => ?_)
  refine g_aloadN C d41_31 (v := (.ref r)) rfl rfl (q := 32) rfl ?_
  refine g_areturn C d41_32 rfl rfl (Nat.le_refl _) (by decide) (by decide) ⟨r, rfl, gr, (Ext.kp E1 []).trans K3 (fun x hx => Or.inr (by cases List.mem_singleton.mp hx; exact gr)), A3.congr (fun j hj => by
      by_cases q : j < 16
      · rw [if_pos ⟨Nat.zero_le _, by omega⟩, if_pos q, Nat.zero_add, Nat.sub_zero]
      · rw [if_neg (fun z => q (by omega)), if_neg q])⟩
set_option maxRecDepth 65536 in
set_option maxHeartbeats 40000000 in
theorem c_ensureG (l : Launch) (Z : State) (a0 : Array Value) (G : Gl Z a0) (cz : Int32) (fm : Value) (LG0 : LG Z cz fm) (a b : Addr) (cs : List Int32) (h0 : Heap) (n0 : Nat) (X0 : Ext Z.heap h0) (D : SBD Z h0 a b 16 cs) (k : Nat) (hk : k = 17 ∨ k = 18) (Z0 : n0 ≤ h0.size) (ga : n0 ≤ a) :
    Ctr l Z (⟨"java/lang/AbstractStringBuilder", "ensureCapacityInternal", "(I)V"⟩ : MethodName) jdk_68_method_9_code 3 none rmG2 #[(.ref a), (.int (Int32.ofNat k))] h0 n0 (fun v h => v = none ∧ ∃ r, h0.size ≤ r ∧ Keep h0 h [a] ∧ SBD Z h a r 34 cs) := by
  have hw := G.1
  have D0 := D
  obtain ⟨F, hlen, f, B, hf, hfit, hpc⟩ := D
  refine Ctr.of (n1 := n0) #[.val (.ref a), .val (.int (Int32.ofNat k)), .unset] (plainFor_of_name pn2) (fun m => by first | (simp [entryFrame, mkF, argsToLocals, Value.category, maxLocals]; done) | rfl) ?_
  intro p e s m below meth c C
  refine g_aloadN C d25_0 (v := (.ref a)) rfl rfl (q := 1) rfl ?_
  refine g_getf C d25_1 (host := "") (Or.inl (wd128 hw)) Via.refl F.2.1 (q := 4) rfl ?_
  refine g_alen C d25_4 B (z := (16 : Int32)) rfl (q := 5) rfl ?_
  refine g_aloadN C d25_5 (v := (.ref a)) rfl rfl (q := 6) rfl ?_
  refine g_getf C d25_6 (host := "") (Or.inl (wd130 hw)) Via.refl F.2.2.1 (q := 9) rfl ?_
  refine g_ishr C d25_9 (q := 10) rfl ?_
  rw [shr0]
  refine g_istoreN C d25_10 (L' := #[.val (.ref a), .val (.int (Int32.ofNat k)), .val (.int (16 : Int32))]) rfl (q := 11) rfl ?_
  refine g_iloadN C d25_11 (v := (Int32.ofNat k)) rfl (q := 12) rfl ?_
  refine g_iloadN C d25_12 (v := (16 : Int32)) rfl (q := 13) rfl ?_
  refine g_isub C d25_13 (q := 14) rfl ?_
  refine g_if_le C d25_14 (q' := 38) (q := 17) (by decide) (by decide) rfl (fun hy => absurd (by rcases hk with rfl | rfl <;> decide) hy) (fun hn => ?_)
  refine g_aloadN C d25_17 (v := (.ref a)) rfl rfl (q := 18) rfl ?_
  refine g_aloadN C d25_18 (v := (.ref a)) rfl rfl (q := 19) rfl ?_
  refine g_getf C d25_19 (host := "") (Or.inl (wd128 hw)) Via.refl F.2.1 (q := 22) rfl ?_
  refine g_aloadN C d25_22 (v := (.ref a)) rfl rfl (q := 23) rfl ?_
  refine g_iloadN C d25_23 (v := (Int32.ofNat k)) rfl (q := 24) rfl ?_
  refine g_callQ C (W := 2) (argsL := [(.int (Int32.ofNat k))]) (rest := [(.ref b), (.ref a)]) (a := a) d25_24 (wd228 hw) (wd229 hw) (wd231 hw) (wd232 hw) (by decide) (priv_of C (wd230 hw)) F.1 (Ctr.bk (c_newCap l Z a0 G cz fm LG0 a b cs h0 n0 X0 D0 k hk) C (wd232 hw) (wd124 hw) (by decide) (by decide)) (by decide) (by decide) rfl (lenOf pd17 rfl) rfl rfl (q := 27) rfl (fun v1 h1 hQ1 => ?_)
  obtain ⟨rfl, rfl⟩ := hQ1
  refine ⟨[(.int (34 : Int32)), (.ref b), (.ref a)], rfl, ?_⟩
  refine g_aloadN C d25_27 (v := (.ref a)) rfl rfl (q := 28) rfl ?_
  refine g_getf C d25_28 (host := "") (Or.inl (wd130 hw)) Via.refl F.2.2.1 (q := 31) rfl ?_
  refine g_ishl C d25_31 (q := 32) rfl ?_
  rw [shl0]
  refine g_callS C (W := 1) (argsL := [(.ref b), (.int (34 : Int32))]) (rest := [(.ref a)]) d25_32 (wd243 hw) (wd244 hw) (wd212 hw) (wd245 hw) (by decide) (Ctr.bk (c_copyOf l Z a0 G b f h0 n0 Z0 B hfit) C (wd245 hw) (wd212 hw) (by decide) (by decide)) (by decide) (by decide) rfl (lenOf pd18 rfl) rfl rfl (q := 35) rfl (fun v2 h2 hQ2 => ?_)
  obtain ⟨r, rfl, gr, K2, A2⟩ := hQ2
  refine ⟨[(.ref r), (.ref a)], rfl, ?_⟩
  have F2 := F.keep K2 (by simp)
  refine g_putf C d25_35 (host := "") (Or.inl (wd128 hw)) Via.refl F2.2.1 F2.1 (Or.inl (wd129 hw)) (wd115 hw) (ty := (.array .byte)) (by decide) rfl rfl ga (q := 38) rfl (fun h3 W3 => ?_)
  have F3 := F2.w0 hw W3
  have nr : r ≠ a := A2.ne_exa F2.1 (wd115 hw)
  refine g_return C d25_38 (Nat.le_refl _) (by decide) (by decide) ⟨rfl, r, gr, ((Keep.refl h0 [a]).trans K2 (by simp)).wr W3 (Or.inl (by simp)), F3, Nat.le_trans hlen (by decide), _, A2.other W3 nr, fun j hj => by rw [if_pos (by omega)]; exact hf j hj, fun j hj => by
      by_cases q : j < 16
      · rw [if_pos q]; exact hfit j q
      · rw [if_neg q]; rfl, hpc⟩
set_option maxRecDepth 65536 in
set_option maxHeartbeats 40000000 in
theorem c_asbappG (l : Launch) (Z : State) (a0 : Array Value) (G : Gl Z a0) (cz : Int32) (fm : Value) (LG0 : LG Z cz fm) (a b : Addr) (cs : List Int32) (h0 : Heap) (n0 : Nat) (X0 : Ext Z.heap h0) (D : SBD Z h0 a b 16 cs) (t : Addr) (ds : List Int32) (S : SL Z h0 t ds) (nta : t ≠ a) (hk : cs.length + ds.length = 17 ∨ cs.length + ds.length = 18) (Z0 : n0 ≤ h0.size) (ga : n0 ≤ a) (gza : Z.heap.size ≤ a) :
    Ctr l Z (⟨"java/lang/AbstractStringBuilder", "append", "(Ljava/lang/String;)Ljava/lang/AbstractStringBuilder;"⟩ : MethodName) jdk_68_method_22_code 3 (some (.object "java/lang/AbstractStringBuilder")) rmG4 #[(.ref a), (.ref t)] h0 n0 (fun v h => v = some (.ref a) ∧ ∃ r, h0.size ≤ r ∧ Keep h0 h [a] ∧ SBD Z h a r 34 (cs ++ ds)) := by
  have hw := G.1
  have D0 := D
  have pd : ∀ c ∈ ds, ¬ c < 0 ∧ ¬ (255 : Int32) < c := by obtain ⟨_, _, _, _, _, r⟩ := S; exact r
  obtain ⟨F, hlen, f, B, hf, hfit, hpc⟩ := D
  have ec : Int32.ofNat cs.length + Int32.ofNat ds.length = Int32.ofNat (cs.length + ds.length) := (Int32.ofNat_add _ _).symm
  refine Ctr.of (n1 := n0) #[.val (.ref a), .val (.ref t), .unset] (plainFor_of_name pn2) (fun m => by first | (simp [entryFrame, mkF, argsToLocals, Value.category, maxLocals]; done) | rfl) ?_
  intro p e s m below meth c C
  refine g_aloadN C d22_0 (v := (.ref t)) rfl rfl (q := 1) rfl ?_
  refine g_ifnonnullY C d22_1 (q := 9) (by decide) (by decide) ?_
  refine g_aloadN C d22_9 (v := (.ref t)) rfl rfl (q := 10) rfl ?_
  refine g_callV C (W := 0) (argsL := []) (rest := []) (a := t) d22_10 (wd142 hw) (wd143 hw) (wd145 hw) (wd144 hw) (by decide) (nf_of C (wd145 hw)) S.exa (Ctr.bk (c_len l Z a0 G cz fm LG0 h0 n0 X0 t ds S) C (wd146 hw) (wd3 hw) (by decide) (by decide)) (by decide) (by decide) rfl (lenOf pd6 rfl) rfl rfl (q := 13) rfl (fun v1 h1 hQ1 => ?_)
  obtain ⟨rfl, rfl⟩ := hQ1
  refine ⟨[(.int (Int32.ofNat ds.length))], rfl, ?_⟩
  refine g_istoreN C d22_13 (L' := #[.val (.ref a), .val (.ref t), .val (.int (Int32.ofNat ds.length))]) rfl (q := 14) rfl ?_
  refine g_aloadN C d22_14 (v := (.ref a)) rfl rfl (q := 15) rfl ?_
  refine g_aloadN C d22_15 (v := (.ref a)) rfl rfl (q := 16) rfl ?_
  refine g_getf C d22_16 (host := "") (Or.inl (wd152 hw)) Via.refl F.2.2.2 (q := 19) rfl ?_
  refine g_iloadN C d22_19 (v := (Int32.ofNat ds.length)) rfl (q := 20) rfl ?_
  refine g_iadd C d22_20 (q := 21) rfl ?_
  rw [ec]
  refine g_callQ C (W := 0) (argsL := [(.int (Int32.ofNat (cs.length + ds.length)))]) (rest := []) (a := a) d22_21 (wd154 hw) (wd155 hw) (wd157 hw) (wd158 hw) (by decide) (priv_of C (wd156 hw)) F.1 (Ctr.bk (c_ensureG l Z a0 G cz fm LG0 a b cs h0 n0 X0 D0 (cs.length + ds.length) hk Z0 ga) C (wd158 hw) (wd124 hw) (by decide) (by decide)) (by decide) (by decide) rfl (lenOf pd3 rfl) rfl rfl (q := 24) rfl (fun v1 h1 hQ1 => ?_)
  obtain ⟨rfl, r, gr, K1, D1⟩ := hQ1
  refine ⟨[], rfl, ?_⟩
  have S1 := S.other K1 F.1 (wd115 hw) nta
  have X1 := Ext.keep X0 K1 (by simpa using gza)
  have D1' := D1
  obtain ⟨F1, hlen1, f1, B1, hf1, hfit1, hpc1⟩ := D1
  have gr0 : n0 ≤ r := Nat.le_trans Z0 gr
  have nar_ : a ≠ r := Nat.ne_of_lt (Nat.lt_of_lt_of_le F.1.lt gr)
  refine g_aloadN C d22_24 (v := (.ref a)) rfl rfl (q := 25) rfl ?_
  refine g_aloadN C d22_25 (v := (.ref a)) rfl rfl (q := 26) rfl ?_
  refine g_getf C d22_26 (host := "") (Or.inl (wd152 hw)) Via.refl F1.2.2.2 (q := 29) rfl ?_
  refine g_aloadN C d22_29 (v := (.ref t)) rfl rfl (q := 30) rfl ?_
  refine g_callQ C (W := 0) (argsL := [(.int (Int32.ofNat cs.length)), (.ref t)]) (rest := []) (a := a) d22_30 (wd159 hw) (wd160 hw) (wd162 hw) (wd163 hw) (by decide) (priv_of C (wd161 hw)) F1.1 (Ctr.bk (c_putAt l Z a0 G cz fm LG0 a r 34 cs h1 n0 X1 D1' t ds S1 (by omega) ga gr0 nar_) C (wd163 hw) (wd124 hw) (by decide) (by decide)) (by decide) (by decide) rfl (lenOf pd7 rfl) rfl rfl (q := 33) rfl (fun v2 h2 hQ2 => ?_)
  obtain ⟨rfl, K2, F2, f2, B2, hf2, hfit2⟩ := hQ2
  refine ⟨[], rfl, ?_⟩
  refine g_aloadN C d22_33 (v := (.ref a)) rfl rfl (q := 34) rfl ?_
  refine g_dup C d22_34 rfl (q := 35) rfl ?_
  refine g_getf C d22_35 (host := "") (Or.inl (wd152 hw)) Via.refl F2.2.2.2 (q := 38) rfl ?_
  refine g_iloadN C d22_38 (v := (Int32.ofNat ds.length)) rfl (q := 39) rfl ?_
  refine g_iadd C d22_39 (q := 40) rfl ?_
  rw [ec]
  refine g_putf C d22_40 (host := "") (Or.inl (wd152 hw)) Via.refl F2.2.2.2 F2.1 (Or.inl (wd153 hw)) (wd115 hw) (ty := .int) (by decide) rfl rfl ga (q := 43) rfl (fun h3 W3 => ?_)
  have F3 := F2.w2 hw W3
  have D3 : SBD Z h3 a r 34 (cs ++ ds) := ⟨by rw [List.length_append]; exact F3, by rw [List.length_append]; omega, f2, B2.other W3 (Ne.symm nar_), hf2, hfit2, fun c hc => by
    rcases List.mem_append.mp hc with q | q
    · exact hpc c q
    · exact pd c q⟩
  refine g_aloadN C d22_43 (v := (.ref a)) rfl rfl (q := 44) rfl ?_
  refine g_areturn C d22_44 rfl rfl (Nat.le_refl _) (by decide) (by decide) ⟨rfl, r, gr, (K1.trans K2 (fun x hx => Or.inr (by cases List.mem_singleton.mp hx; exact gr))).wr W3 (Or.inl (by simp)), D3⟩
set_option maxRecDepth 65536 in
set_option maxHeartbeats 40000000 in
theorem c_appendG (l : Launch) (Z : State) (a0 : Array Value) (G : Gl Z a0) (cz : Int32) (fm : Value) (LG0 : LG Z cz fm) (a b : Addr) (cs : List Int32) (h0 : Heap) (n0 : Nat) (X0 : Ext Z.heap h0) (D : SBD Z h0 a b 16 cs) (t : Addr) (ds : List Int32) (S : SL Z h0 t ds) (nta : t ≠ a) (hk : cs.length + ds.length = 17 ∨ cs.length + ds.length = 18) (Z0 : n0 ≤ h0.size) (ga : n0 ≤ a) (gza : Z.heap.size ≤ a) :
    Ctr l Z (⟨"java/lang/StringBuilder", "append", "(Ljava/lang/String;)Ljava/lang/StringBuilder;"⟩ : MethodName) jdk_67_method_7_code 2 (some (.object "java/lang/StringBuilder")) rmG5 #[(.ref a), (.ref t)] h0 n0 (fun v h => v = some (.ref a) ∧ ∃ r, h0.size ≤ r ∧ Keep h0 h [a] ∧ SBD Z h a r 34 (cs ++ ds)) := by
  have hw := G.1
  refine Ctr.of (n1 := n0) #[.val (.ref a), .val (.ref t)] (plainFor_of_name pn3) (fun m => by first | (simp [entryFrame, mkF, argsToLocals, Value.category, maxLocals]; done) | rfl) ?_
  intro p e s m below meth c C
  refine g_aloadN C d21_0 (v := (.ref a)) rfl rfl (q := 1) rfl ?_
  refine g_aloadN C d21_1 (v := (.ref t)) rfl rfl (q := 2) rfl ?_
  refine g_callU C (W := 0) (argsL := [(.ref t)]) (rest := []) (a := a) d21_2 (wd137 hw) (wd138 hw) (wd139 hw) (wd157 hw) rfl (by decide) (wd141 hw) (by decide) D.1.1 (Ctr.bk (c_asbappG l Z a0 G cz fm LG0 a b cs h0 n0 X0 D t ds S nta hk Z0 ga gza) C (wd141 hw) (wd124 hw) (by decide) (by decide)) (by decide) (by decide) rfl (lenOf pd8 rfl) rfl rfl (q := 5) rfl (fun v1 h1 hQ1 => ?_)
  obtain ⟨rfl, r, gr, K1, D1⟩ := hQ1
  refine ⟨[(.ref a)], rfl, ?_⟩
  refine g_pop C d21_5 rfl (q := 6) rfl ?_
  refine g_aloadN C d21_6 (v := (.ref a)) rfl rfl (q := 7) rfl ?_
  refine g_areturn C d21_7 rfl rfl (Nat.le_refl _) (by decide) (by decide) ⟨rfl, r, gr, K1, D1⟩
def HOF (Z : State) (h : Heap) (a : Addr) (v0 v1 v2 : Value) : Prop := Exa Z h a "com/example/notice_to_drain/noticetodrain/drain/HookOutcome" ∧ Fld Z h a "com/example/notice_to_drain/noticetodrain/drain/HookOutcome" "hook" "Ljava/lang/String;" v0 ∧ Fld Z h a "com/example/notice_to_drain/noticetodrain/drain/HookOutcome" "ending" "Lcom/example/notice_to_drain/noticetodrain/drain/HookOutcome$Ending;" v1 ∧ Fld Z h a "com/example/notice_to_drain/noticetodrain/drain/HookOutcome" "exitStatus" "Ljava/lang/Integer;" v2
theorem HOF.ext {Z : State} {h h' : Heap} {a : Addr} {v0 v1 v2 : Value} (F : HOF Z h a v0 v1 v2) (E : Ext h h') : HOF Z h' a v0 v1 v2 := ⟨F.1.ext E, F.2.1.ext E, F.2.2.1.ext E, F.2.2.2.ext E⟩
theorem HOF.other {Z : State} {h h' : Heap} {a : Addr} {v0 v1 v2 : Value} {b : Addr} {sl : Nat} {v : Value} (F : HOF Z h a v0 v1 v2) (W : Wr h h' b sl v) (ne : a ≠ b) : HOF Z h' a v0 v1 v2 := ⟨F.1.wr W, F.2.1.other W (Or.inl ne), F.2.2.1.other W (Or.inl ne), F.2.2.2.other W (Or.inl ne)⟩
theorem HOF.keep {Z : State} {h h' : Heap} {a : Addr} {v0 v1 v2 : Value} {ws : List Addr} (F : HOF Z h a v0 v1 v2) (K : Keep h h' ws) (ne : a ∉ ws) : HOF Z h' a v0 v1 v2 := ⟨F.1.keep K, F.2.1.keep K ne, F.2.2.1.keep K ne, F.2.2.2.keep K ne⟩
theorem HOF.w0 {Z : State} {h h' : Heap} {a : Addr} {v0 v1 v2 : Value} {a0 : Array Value} {v : Value} (hw : ∀ d ∈ tables_1, d.before a0 Z = true) (F : HOF Z h a v0 v1 v2) (W : Wr h h' a (Jvm.RoadKit.slotOf Z "com/example/notice_to_drain/noticetodrain/drain/HookOutcome" "hook" "Ljava/lang/String;") v) : HOF Z h' a v v1 v2 := ⟨F.1.wr W, F.2.1.same W, F.2.2.1.other W (Or.inr (slot_ne (Or.inr (wd50 hw)) (Or.inr (wd48 hw)) (by decide) (t := (.object "com/example/notice_to_drain/noticetodrain/drain/HookOutcome$Ending")) (t' := (.object "java/lang/String")) (by decide) (by decide))), F.2.2.2.other W (Or.inr (slot_ne (Or.inr (wd52 hw)) (Or.inr (wd48 hw)) (by decide) (t := (.object "java/lang/Integer")) (t' := (.object "java/lang/String")) (by decide) (by decide)))⟩
theorem HOF.w1 {Z : State} {h h' : Heap} {a : Addr} {v0 v1 v2 : Value} {a0 : Array Value} {v : Value} (hw : ∀ d ∈ tables_1, d.before a0 Z = true) (F : HOF Z h a v0 v1 v2) (W : Wr h h' a (Jvm.RoadKit.slotOf Z "com/example/notice_to_drain/noticetodrain/drain/HookOutcome" "ending" "Lcom/example/notice_to_drain/noticetodrain/drain/HookOutcome$Ending;") v) : HOF Z h' a v0 v v2 := ⟨F.1.wr W, F.2.1.other W (Or.inr (slot_ne (Or.inr (wd48 hw)) (Or.inr (wd50 hw)) (by decide) (t := (.object "java/lang/String")) (t' := (.object "com/example/notice_to_drain/noticetodrain/drain/HookOutcome$Ending")) (by decide) (by decide))), F.2.2.1.same W, F.2.2.2.other W (Or.inr (slot_ne (Or.inr (wd52 hw)) (Or.inr (wd50 hw)) (by decide) (t := (.object "java/lang/Integer")) (t' := (.object "com/example/notice_to_drain/noticetodrain/drain/HookOutcome$Ending")) (by decide) (by decide)))⟩
theorem HOF.w2 {Z : State} {h h' : Heap} {a : Addr} {v0 v1 v2 : Value} {a0 : Array Value} {v : Value} (hw : ∀ d ∈ tables_1, d.before a0 Z = true) (F : HOF Z h a v0 v1 v2) (W : Wr h h' a (Jvm.RoadKit.slotOf Z "com/example/notice_to_drain/noticetodrain/drain/HookOutcome" "exitStatus" "Ljava/lang/Integer;") v) : HOF Z h' a v0 v1 v := ⟨F.1.wr W, F.2.1.other W (Or.inr (slot_ne (Or.inr (wd48 hw)) (Or.inr (wd52 hw)) (by decide) (t := (.object "java/lang/String")) (t' := (.object "java/lang/Integer")) (by decide) (by decide))), F.2.2.1.other W (Or.inr (slot_ne (Or.inr (wd50 hw)) (Or.inr (wd52 hw)) (by decide) (t := (.object "com/example/notice_to_drain/noticetodrain/drain/HookOutcome$Ending")) (t' := (.object "java/lang/Integer")) (by decide) (by decide))), F.2.2.2.same W⟩
abbrev rmH0 : Room := { frames := 0, cells := 0, slots := 0, locals := 0 }
abbrev rmH1 : Room := { frames := 1, cells := 0, slots := 0, locals := 16 }
abbrev rmH2 : Room := { frames := 2, cells := 1, slots := 3, locals := 64 }
set_option maxRecDepth 65536 in
set_option maxHeartbeats 40000000 in
theorem c_hoinit (l : Launch) (Z : State) (a0 : Array Value) (G : Gl Z a0) (a k b : Addr) (v0 v1 v2 : Value) (h0 : Heap) (n0 : Nat) (ga : n0 ≤ a) (F : HOF Z h0 a v0 v1 v2) :
    Ctr l Z (⟨"com/example/notice_to_drain/noticetodrain/drain/HookOutcome", "<init>", "(Ljava/lang/String;Lcom/example/notice_to_drain/noticetodrain/drain/HookOutcome$Ending;Ljava/lang/Integer;)V"⟩ : MethodName) prog_5_method_1_code 4 none rmH1 #[(.ref a), (.ref k), (.ref b), .null] h0 n0 (fun v h => v = none ∧ Keep h0 h [a] ∧ HOF Z h a (.ref k) (.ref b) .null) := by
  have hw := G.1
  refine Ctr.of (n1 := n0) #[.val (.ref a), .val (.ref k), .val (.ref b), .val .null] (plainFor_of_name pn6) (fun m => by first | (simp [entryFrame, mkF, argsToLocals, Value.category, maxLocals]; done) | rfl) ?_
  intro p e s m below meth c C
  refine g_aloadN C d8_0 (v := (.ref a)) rfl rfl (q := 1) rfl ?_
  refine g_initO C d8_1 (wd46 hw) (wd13 hw) (wd14 hw) rfl (by decide) (W := 0) rfl (by decide) (q := 4) rfl ?_
  refine g_aloadN C d8_4 (v := (.ref a)) rfl rfl (q := 5) rfl ?_
  refine g_aloadN C d8_5 (v := (.ref k)) rfl rfl (q := 6) rfl ?_
  refine g_putf C d8_6 (host := "") (Or.inl (wd47 hw)) Via.refl F.2.1 F.1 (Or.inr ⟨(wd48 hw), rfl, rfl⟩) (wd39 hw) (ty := (.object "java/lang/String")) (by decide) rfl rfl ga (q := 9) rfl (fun h1 W1 => ?_)
  have F1 := F.w0 hw W1
  refine g_aloadN C d8_9 (v := (.ref a)) rfl rfl (q := 10) rfl ?_
  refine g_aloadN C d8_10 (v := (.ref b)) rfl rfl (q := 11) rfl ?_
  refine g_putf C d8_11 (host := "") (Or.inl (wd49 hw)) Via.refl F1.2.2.1 F1.1 (Or.inr ⟨(wd50 hw), rfl, rfl⟩) (wd39 hw) (ty := (.object "com/example/notice_to_drain/noticetodrain/drain/HookOutcome$Ending")) (by decide) rfl rfl ga (q := 14) rfl (fun h2 W2 => ?_)
  have F2 := F1.w1 hw W2
  refine g_aloadN C d8_14 (v := (.ref a)) rfl rfl (q := 15) rfl ?_
  refine g_aloadN C d8_15 (v := .null) rfl rfl (q := 16) rfl ?_
  refine g_putf C d8_16 (host := "") (Or.inl (wd51 hw)) Via.refl F2.2.2.2 F2.1 (Or.inr ⟨(wd52 hw), rfl, rfl⟩) (wd39 hw) (ty := (.object "java/lang/Integer")) (by decide) rfl rfl ga (q := 19) rfl (fun h3 W3 => ?_)
  have F3 := F2.w2 hw W3
  refine g_return C d8_19 (Nat.le_refl _) (by decide) (by decide) ⟨rfl, (((Keep.refl h0 [a]).wr W1 (Or.inl (by simp))).wr W2 (Or.inl (by simp))).wr W3 (Or.inl (by simp)), F3⟩
set_option maxRecDepth 65536 in
set_option maxHeartbeats 40000000 in
theorem c_make (l : Launch) (Z : State) (a0 : Array Value) (G : Gl Z a0) (me : Addr) (SM : Sta Z Z.heap "com/example/notice_to_drain/noticetodrain/drain/HookOutcome$Ending" "UNSTARTED" "Lcom/example/notice_to_drain/noticetodrain/drain/HookOutcome$Ending;" (.ref me)) (k : Addr) (h0 : Heap) (n0 : Nat) (Z0 : n0 ≤ h0.size) (X0 : Ext Z.heap h0) :
    Ctr l Z (⟨"com/example/notice_to_drain/noticetodrain/drain/HookOutcome", "unstarted", "(Ljava/lang/String;)Lcom/example/notice_to_drain/noticetodrain/drain/HookOutcome;"⟩ : MethodName) prog_5_method_3_code 1 (some (.object "com/example/notice_to_drain/noticetodrain/drain/HookOutcome")) rmH2 #[(.ref k)] h0 n0 (fun v h => ∃ a, v = some (.ref a) ∧ h0.size ≤ a ∧ Keep h0 h [] ∧ HOF Z h a (.ref k) (.ref me) .null) := by
  have hw := G.1
  refine Ctr.of (n1 := n0) #[.val (.ref k)] (plainFor_of_name pn6) (fun m => by first | (simp [entryFrame, mkF, argsToLocals, Value.category, maxLocals]; done) | rfl) ?_
  intro p e s m below meth c C
  refine g_new C d7_0 (wd38 hw) (wd39 hw) (wd36 hw) (by decide) (by decide) (q := 3) rfl (fun a h1 q1 E1 A1 D1 => ?_)
  refine g_dup C d7_3 rfl (q := 4) rfl ?_
  refine g_aloadN C d7_4 (v := (.ref k)) rfl rfl (q := 5) rfl ?_
  refine g_gets C d7_5 (host := "") (Or.inl (wd40 hw)) Via.refl (SM.ext (Ext.tr X0 E1)) (q := 8) rfl ?_
  refine g_aconst_null C d7_8 (q := 9) rfl ?_
  refine g_callI C (W := 1) (argsL := [(.ref k), (.ref me), .null]) (rest := [(.ref a)]) (a := a) d7_9 rfl (wd43 hw) (wd44 hw) (wd45 hw) (by decide) (Ctr.bk (c_hoinit l Z a0 G a k me _ _ _ h1 n0 (by rw [q1]; exact Z0) ⟨A1, D1 (Or.inr (wd48 hw)) (ty := (.object "java/lang/String")) (by decide), D1 (Or.inr (wd50 hw)) (ty := (.object "com/example/notice_to_drain/noticetodrain/drain/HookOutcome$Ending")) (by decide), D1 (Or.inr (wd52 hw)) (ty := (.object "java/lang/Integer")) (by decide)⟩) C (wd45 hw) (wd36 hw) (by decide) (by decide)) (by decide) (by decide) rfl (lenOf pd19 rfl) rfl rfl (q := 12) rfl (fun v2 h2 hQ2 => ?_)
  obtain ⟨rfl, K2, F2⟩ := hQ2
  refine ⟨[(.ref a)], rfl, ?_⟩
  refine g_areturn C d7_12 rfl rfl (Nat.le_refl _) (by decide) (by decide) ⟨a, rfl, by rw [q1]; exact Nat.le_refl _, (Ext.kp E1 []).trans K2 (fun x hx => Or.inr (by cases List.mem_singleton.mp hx; rw [q1]; exact Nat.le_refl _)), F2⟩
set_option maxRecDepth 65536 in
set_option maxHeartbeats 40000000 in
theorem c_hook (l : Launch) (Z : State) (a0 : Array Value) (G : Gl Z a0) (a k me : Addr) (h0 : Heap) (n0 : Nat) (F : HOF Z h0 a (.ref k) (.ref me) .null) :
    Ctr l Z (⟨"com/example/notice_to_drain/noticetodrain/drain/HookOutcome", "hook", "()Ljava/lang/String;"⟩ : MethodName) prog_5_method_6_code 1 (some (.object "java/lang/String")) rmH0 #[(.ref a)] h0 n0 (fun v h => h0 = h ∧ v = some (.ref k)) := by
  have hw := G.1
  refine Ctr.of (n1 := n0) #[.val (.ref a)] (plainFor_of_name pn6) (fun m => by first | (simp [entryFrame, mkF, argsToLocals, Value.category, maxLocals]; done) | rfl) ?_
  intro p e s m below meth c C
  refine g_aloadN C d9_0 (v := (.ref a)) rfl rfl (q := 1) rfl ?_
  refine g_getf C d9_1 (host := "") (Or.inl (wd47 hw)) Via.refl F.2.1 (q := 4) rfl ?_
  refine g_areturn C d9_4 rfl rfl (Nat.le_refl _) (by decide) (by decide) ⟨rfl, rfl⟩
set_option maxRecDepth 65536 in
set_option maxHeartbeats 40000000 in
theorem c_exitUnknown (l : Launch) (Z : State) (a0 : Array Value) (G : Gl Z a0) (a k me : Addr) (h0 : Heap) (n0 : Nat) (F : HOF Z h0 a (.ref k) (.ref me) .null) (x : Addr) (SX : Sta Z Z.heap "com/example/notice_to_drain/noticetodrain/drain/HookOutcome$Ending" "UNKNOWN" "Lcom/example/notice_to_drain/noticetodrain/drain/HookOutcome$Ending;" (.ref x)) (X0 : Ext Z.heap h0) :
    Ctr l Z (⟨"com/example/notice_to_drain/noticetodrain/drain/HookOutcome", "exitUnknown", "()Z"⟩ : MethodName) prog_5_method_10_code 1 (some .boolean) rmH0 #[(.ref a)] h0 n0 (fun v h => h0 = h ∧ ∃ r, v = some (.int r) ∧ AN (me = x) r) := by
  have hw := G.1
  refine Ctr.of (n1 := n0) #[.val (.ref a)] (plainFor_of_name pn6) (fun m => by first | (simp [entryFrame, mkF, argsToLocals, Value.category, maxLocals]; done) | rfl) ?_
  intro p e s m below meth c C
  refine g_aloadN C d16_0 (v := (.ref a)) rfl rfl (q := 1) rfl ?_
  refine g_getf C d16_1 (host := "") (Or.inl (wd49 hw)) Via.refl F.2.2.1 (q := 4) rfl ?_
  refine g_gets C d16_4 (host := "") (Or.inl (wd97 hw)) Via.refl (SX.ext X0) (q := 7) rfl ?_
  refine g_acmp_ne C d16_7 rfl rfl (q' := 14) (q := 10) (by decide) (by decide) rfl (fun q1 => ?_) (fun q1 => ?_)
  ·
    refine g_iconst C d16_14 (z := (0 : Int32)) rfl (q := 15) rfl ?_
    refine g_nreturn C d16_15 (by simp) (z := 0) rfl (Nat.le_refl _) (by decide) (by decide) ⟨rfl, _, rfl, Or.inr ⟨fun q => q1 (congrArg Value.ref q), rfl⟩⟩
  ·
    refine g_iconst C d16_10 (z := (1 : Int32)) rfl (q := 11) rfl ?_
    refine g_goto C d16_11 (q := 15) (by decide) (by decide) ?_
    refine g_nreturn C d16_15 (by simp) (z := 1) rfl (Nat.le_refl _) (by decide) (by decide) ⟨rfl, _, rfl, Or.inl ⟨Value.ref.inj q1, rfl⟩⟩
set_option maxRecDepth 65536 in
set_option maxHeartbeats 40000000 in
theorem c_timedOut (l : Launch) (Z : State) (a0 : Array Value) (G : Gl Z a0) (a k me : Addr) (h0 : Heap) (n0 : Nat) (F : HOF Z h0 a (.ref k) (.ref me) .null) (x : Addr) (SX : Sta Z Z.heap "com/example/notice_to_drain/noticetodrain/drain/HookOutcome$Ending" "TIMED_OUT" "Lcom/example/notice_to_drain/noticetodrain/drain/HookOutcome$Ending;" (.ref x)) (X0 : Ext Z.heap h0) :
    Ctr l Z (⟨"com/example/notice_to_drain/noticetodrain/drain/HookOutcome", "timedOut", "()Z"⟩ : MethodName) prog_5_method_9_code 1 (some .boolean) rmH0 #[(.ref a)] h0 n0 (fun v h => h0 = h ∧ ∃ r, v = some (.int r) ∧ AN (me = x) r) := by
  have hw := G.1
  refine Ctr.of (n1 := n0) #[.val (.ref a)] (plainFor_of_name pn6) (fun m => by first | (simp [entryFrame, mkF, argsToLocals, Value.category, maxLocals]; done) | rfl) ?_
  intro p e s m below meth c C
  refine g_aloadN C d15_0 (v := (.ref a)) rfl rfl (q := 1) rfl ?_
  refine g_getf C d15_1 (host := "") (Or.inl (wd49 hw)) Via.refl F.2.2.1 (q := 4) rfl ?_
  refine g_gets C d15_4 (host := "") (Or.inl (wd90 hw)) Via.refl (SX.ext X0) (q := 7) rfl ?_
  refine g_acmp_ne C d15_7 rfl rfl (q' := 14) (q := 10) (by decide) (by decide) rfl (fun q1 => ?_) (fun q1 => ?_)
  ·
    refine g_iconst C d15_14 (z := (0 : Int32)) rfl (q := 15) rfl ?_
    refine g_nreturn C d15_15 (by simp) (z := 0) rfl (Nat.le_refl _) (by decide) (by decide) ⟨rfl, _, rfl, Or.inr ⟨fun q => q1 (congrArg Value.ref q), rfl⟩⟩
  ·
    refine g_iconst C d15_10 (z := (1 : Int32)) rfl (q := 11) rfl ?_
    refine g_goto C d15_11 (q := 15) (by decide) (by decide) ?_
    refine g_nreturn C d15_15 (by simp) (z := 1) rfl (Nat.le_refl _) (by decide) (by decide) ⟨rfl, _, rfl, Or.inl ⟨Value.ref.inj q1, rfl⟩⟩
set_option maxRecDepth 65536 in
set_option maxHeartbeats 40000000 in
theorem c_ok (l : Launch) (Z : State) (a0 : Array Value) (G : Gl Z a0) (a k me : Addr) (h0 : Heap) (n0 : Nat) (F : HOF Z h0 a (.ref k) (.ref me) .null) :
    Ctr l Z (⟨"com/example/notice_to_drain/noticetodrain/drain/HookOutcome", "ok", "()Z"⟩ : MethodName) prog_5_method_8_code 1 (some .boolean) rmH0 #[(.ref a)] h0 n0 (fun v h => h0 = h ∧ v = some (.int 0)) := by
  have hw := G.1
  refine Ctr.of (n1 := n0) #[.val (.ref a)] (plainFor_of_name pn6) (fun m => by first | (simp [entryFrame, mkF, argsToLocals, Value.category, maxLocals]; done) | rfl) ?_
  intro p e s m below meth c C
  refine g_aloadN C d14_0 (v := (.ref a)) rfl rfl (q := 1) rfl ?_
  refine g_getf C d14_1 (host := "") (Or.inl (wd51 hw)) Via.refl F.2.2.2 (q := 4) rfl ?_
  refine g_ifnullY C d14_4 (a := 0) (q := 21) (by decide) (by decide) ?_
  refine g_iconst C d14_21 (z := (0 : Int32)) rfl (q := 22) rfl ?_
  refine g_nreturn C d14_22 (by simp) (z := 0) rfl (Nat.le_refl _) (by decide) (by decide) ⟨rfl, rfl⟩
set_option maxRecDepth 65536 in
set_option maxHeartbeats 40000000 in
theorem c_ord (l : Launch) (Z : State) (a0 : Array Value) (G : Gl Z a0) (me : Addr) (od : Int32) (h0 : Heap) (n0 : Nat) (FO : Fld Z h0 me "java/lang/Enum" "ordinal" "I" (.int od)) :
    Ctr l Z (⟨"java/lang/Enum", "ordinal", "()I"⟩ : MethodName) jdk_37_method_2_code 1 (some .int) rmH0 #[(.ref me)] h0 n0 (fun v h => h0 = h ∧ v = some (.int od)) := by
  have hw := G.1
  refine Ctr.of (n1 := n0) #[.val (.ref me)] (plainFor_of_name pn7) (fun m => by first | (simp [entryFrame, mkF, argsToLocals, Value.category, maxLocals]; done) | rfl) ?_
  intro p e s m below meth c C
  refine g_aloadN C d18_0 (v := (.ref me)) rfl rfl (q := 1) rfl ?_
  refine g_getf C d18_1 (host := "") (Or.inl (wd111 hw)) Via.refl FO (q := 4) rfl ?_
  refine g_ireturn C d18_4 (Nat.le_refl _) (by decide) (by decide) ⟨rfl, rfl⟩
abbrev rmTS : Room := { frames := 6, cells := 10, slots := 260, locals := 160 }
theorem SBD.ext {Z : State} {h h' : Heap} {a b : Addr} {N : Nat} {cs : List Int32} (D : SBD Z h a b N cs) (E : Ext h h') : SBD Z h' a b N cs := by
  obtain ⟨F, hlen, f, B, r⟩ := D
  exact ⟨F.ext E, hlen, f, B.ext E, r⟩
set_option maxRecDepth 65536 in
set_option maxHeartbeats 40000000 in
theorem c_tostr (l : Launch) (Z : State) (a0 : Array Value) (G : Gl Z a0) (cz : Int32) (fm : Value) (LG0 : LG Z cz fm) (me : Addr) (EM : Exa Z Z.heap me "com/example/notice_to_drain/noticetodrain/drain/HookOutcome$Ending") (FO : Fld Z Z.heap me "java/lang/Enum" "ordinal" "I" (.int 1)) (a k : Addr) (cs : List Int32) (hcl : cs.length ≤ 2) (Ts : List String) (hT1 : "failed to start" ∉ Ts) (hT2 : " " ∉ "failed to start" :: Ts) (h0 : Heap) (n0 : Nat) (Z0 : n0 ≤ h0.size) (X0 : Ext Z.heap h0) (FH : HOF Z h0 a (.ref k) (.ref me) .null) (S : SL Z h0 k cs) :
    CtrW l Z (⟨"com/example/notice_to_drain/noticetodrain/drain/HookOutcome", "toString", "()Ljava/lang/String;"⟩ : MethodName) prog_5_method_11_code 2 (some (.object "java/lang/String")) rmTS #[(.ref a)] h0 n0 (fun vm => IB Z vm Ts) (fun v vm h => ∃ t, v = some (.ref t) ∧ h0.size ≤ t ∧ Keep h0 h [] ∧ SL Z h t (cs ++ [32] ++ [102, 97, 105, 108, 101, 100, 32, 116, 111, 32, 115, 116, 97, 114, 116])) := by
  have hw := G.1
  have wS : ∀ a ∈ Bundle.stringAtoms, a.before a0 Z = true := fun d hd => hw d ((by decide +kernel : ∀ d ∈ Bundle.stringAtoms, d ∈ tables_1) d hd)
  refine CtrW.of (n1 := h0.size) #[.val (.ref a), .unset] (plainFor_of_name pn6) (fun m => by first | (simp [entryFrame, mkF, argsToLocals, Value.category, maxLocals]; done) | rfl) ?_
  intro p e s0 vm0 m below meth c C hs0 hP0 Sw
  refine g_aloadN C d17_0 (v := (.ref a)) rfl rfl (q := 1) rfl ?_
  refine g_getf C d17_1 (host := "") (Or.inl (wd49 hw)) Via.refl FH.2.2.1 (q := 4) rfl ?_
  refine g_callVU C (W := 0) (argsL := []) (rest := []) (a := me) d17_4 (wd104 hw) (wd105 hw) (wd106 hw) (wd108 hw) (wd107 hw) (by decide) (EM.ext X0) (Ctr.bk (c_ord l Z a0 G me 1 h0 h0.size (FO.ext X0)) C (wd110 hw) (wd109 hw) (by decide) (by decide)) (by decide) (by decide) rfl (lenOf pd6 rfl) rfl rfl (q := 7) rfl (fun v1 h1 hQ1 => ?_)
  obtain ⟨rfl, rfl⟩ := hQ1
  refine ⟨[(.int (1 : Int32))], rfl, ?_⟩
  refine g_tswIn C (o := 31) d17_7 (by decide) rfl (by decide) (q := 38) (by decide) ?_
  refine g_ldcS C Sw d17_38 (wd113 hw) wS (fun b cl hb => by rw [hs0]; exact X0.2 b cl hb) (by rw [hs0]; exact Nat.le_refl _) hP0 hT1 G.2.2.2.1 G.2.2.1 (vs := [.int 102, .int 97, .int 105, .int 108, .int 101, .int 100, .int 32, .int 116, .int 111, .int 32, .int 115, .int 116, .int 97, .int 114, .int 116]) (z := 15) ⟨by decide, by decide⟩ (by decide) rfl (nn := 60) (by decide) (by decide) (by decide) (by decide) (q := 40) rfl (fun q1 vm1 h1 b1 kb1 E1 C1 Sw1 I1 Lt1 Ea1 Fc1 Fv1 Ar1 => ?_)
  have S1 : SL Z h1 q1 [102, 97, 105, 108, 101, 100, 32, 116, 111, 32, 115, 116, 97, 114, 116] := ⟨b1, Ea1, Fc1, Fv1, (Av.of_arv (N := 15) Ar1 rfl).congr (fun j hj => by
      obtain rfl | rfl | rfl | rfl | rfl | rfl | rfl | rfl | rfl | rfl | rfl | rfl | rfl | rfl | rfl : j = 0 ∨ j = 1 ∨ j = 2 ∨ j = 3 ∨ j = 4 ∨ j = 5 ∨ j = 6 ∨ j = 7 ∨ j = 8 ∨ j = 9 ∨ j = 10 ∨ j = 11 ∨ j = 12 ∨ j = 13 ∨ j = 14 := by omega
      all_goals rfl), by decide⟩
  have X1 := Ext.tr X0 E1
  have Sk := S.ext E1
  have FH1 := FH.ext E1
  refine g_astoreN C1 d17_40 rfl (L' := #[.val (.ref a), .val (.ref q1)]) rfl (q := 41) rfl ?_
  refine g_goto C1 d17_41 (q := 88) (by decide) (by decide) ?_
  refine g_new C1 d17_88 (wd114 hw) (wd115 hw) (wd116 hw) (by decide) (by decide) (q := 91) rfl (fun sb h2 q2 E2 A2 D2 => ?_)
  refine g_dup C1 d17_91 rfl (q := 92) rfl ?_
  have X2 := Ext.tr X1 E2
  have Z1 : h0.size ≤ h1.size := E1.1
  have Z2 : h0.size ≤ h2.size := Nat.le_trans Z1 E2.1
  have g1 : h1.size ≤ sb := by rw [q2]; exact Nat.le_refl _
  have ga : h0.size ≤ sb := Nat.le_trans Z1 g1
  have lsb : sb < h2.size := A2.lt
  refine g_callI C1 (W := 1) (argsL := []) (rest := [(.ref sb)]) (a := sb) d17_92 rfl (wd117 hw) (wd118 hw) (wd119 hw) (by decide) (Ctr.bk (c_sbinit l Z a0 G cz fm LG0 sb _ _ h2 h0.size Z2 X2 ga ⟨A2, D2 (Or.inl (wd129 hw)) (ty := (.array .byte)) (by decide), D2 (Or.inl (wd131 hw)) (ty := .byte) (by decide), D2 (Or.inl (wd153 hw)) (ty := .int) (by decide)⟩) C1 (wd119 hw) (wd116 hw) (by decide) (by decide)) (by decide) (by decide) rfl (lenOf pd20 rfl) rfl rfl (q := 95) rfl (fun v3 h3 hQ3 => ?_)
  obtain ⟨rfl, b, gb2, K3, D3, EB3⟩ := hQ3
  refine ⟨[(.ref sb)], rfl, ?_⟩
  have KK3 : Keep h1 h3 [] := (Ext.kp E2 []).trans K3 (fun x hx => Or.inr (by cases List.mem_singleton.mp hx; exact g1))
  have X3 := Ext.keep X1 KK3 (by simp)
  have gb1 : h1.size ≤ b := Nat.le_trans E2.1 gb2
  have gb : h0.size ≤ b := Nat.le_trans Z1 gb1
  have nab : sb ≠ b := Nat.ne_of_lt (Nat.lt_of_lt_of_le lsb gb2)
  have hab : ∀ x ∈ [sb, b], x ∈ ([] : List Addr) ∨ h1.size ≤ x := fun x hx => Or.inr (by
    rcases List.mem_cons.mp hx with rfl | hx
    · exact g1
    · cases List.mem_singleton.mp hx; exact gb1)
  refine g_aloadN C1 d17_95 (v := (.ref a)) rfl rfl (q := 96) rfl ?_
  refine g_getf C1 d17_96 (host := "") (Or.inl (wd47 hw)) Via.refl (FH1.keep KK3 (by simp)).2.1 (q := 99) rfl ?_
  refine g_callV C1 (W := 0) (argsL := [(.ref k)]) (rest := []) (a := sb) d17_99 (wd132 hw) (wd133 hw) (wd135 hw) (wd134 hw) (by decide) (nf_of C1 (wd135 hw)) D3.1.1 (Ctr.bk (c_append l Z a0 G cz fm LG0 sb b 16 [] h3 h0.size X3 D3 k cs (Sk.keep KK3 (by simp)) (by simp only [List.length_append, List.length_cons, List.length_nil]; omega) ga gb nab) C1 (wd136 hw) (wd116 hw) (by decide) (by decide)) (by decide) (by decide) rfl (lenOf pd21 rfl) rfl rfl (q := 102) rfl (fun v4 h4 hQ4 => ?_)
  obtain ⟨rfl, K4, D4⟩ := hQ4
  refine ⟨[(.ref sb)], rfl, ?_⟩
  have KK4 := KK3.trans K4 hab
  have X4 := Ext.keep X1 KK4 (by simp)
  have D4' : SBD Z h4 sb b 16 cs := by simpa using D4
  refine g_ldcS C1 (Sw1.mono KK4.1) d17_102 (wd179 hw) wS (fun b cl hb => by rw [hs0]; exact X0.2 b cl hb) (by rw [hs0]; exact Nat.le_refl _) I1 hT2 G.2.2.2.2 G.2.2.1 (vs := [.int 32]) (z := 1) ⟨by decide, by decide⟩ (by decide) rfl (nn := 4) (by decide) (by decide) (by decide) (by decide) (q := 104) rfl (fun q5 vm5 h5 b5 kb5 E5 C5 Sw5 I5 Lt5 Ea5 Fc5 Fv5 Ar5 => ?_)
  have S5 : SL Z h5 q5 [32] := ⟨b5, Ea5, Fc5, Fv5, (Av.of_arv (N := 1) Ar5 rfl).congr (fun j hj => by
      obtain rfl : j = 0 := by omega
      all_goals rfl), by decide⟩
  have KK5 : Keep h1 h5 [] := KK4.trans (Ext.kp E5 []) (by simp)
  have X5 := Ext.keep X1 KK5 (by simp)
  refine g_callV C5 (W := 0) (argsL := [(.ref q5)]) (rest := []) (a := sb) d17_104 (wd132 hw) (wd133 hw) (wd135 hw) (wd134 hw) (by decide) (nf_of C5 (wd135 hw)) (D4'.ext E5).1.1 (Ctr.bk (c_append l Z a0 G cz fm LG0 sb b 16 cs h5 h0.size X5 (D4'.ext E5) q5 [32] S5 (by simp only [List.length_append, List.length_cons, List.length_nil]; omega) ga gb nab) C5 (wd136 hw) (wd116 hw) (by decide) (by decide)) (by decide) (by decide) rfl (lenOf pd21 rfl) rfl rfl (q := 107) rfl (fun v6 h6 hQ6 => ?_)
  obtain ⟨rfl, K6, D6⟩ := hQ6
  refine ⟨[(.ref sb)], rfl, ?_⟩
  have KK6 := KK5.trans K6 hab
  have X6 := Ext.keep X1 KK6 (by simp)
  refine g_aloadN C5 d17_107 (v := (.ref q1)) rfl rfl (q := 108) rfl ?_
  by_cases hz : cs.length = 0
  ·
    refine g_callV C5 (W := 0) (argsL := [(.ref q1)]) (rest := []) (a := sb) d17_108 (wd132 hw) (wd133 hw) (wd135 hw) (wd134 hw) (by decide) (nf_of C5 (wd135 hw)) D6.1.1 (Ctr.bk (c_append l Z a0 G cz fm LG0 sb b 16 (cs ++ [32]) h6 h0.size X6 D6 q1 [102, 97, 105, 108, 101, 100, 32, 116, 111, 32, 115, 116, 97, 114, 116] (S1.keep KK6 (by simp)) (by simp only [List.length_append, List.length_cons, List.length_nil]; omega) ga gb nab) C5 (wd136 hw) (wd116 hw) (by decide) (by decide)) (by decide) (by decide) rfl (lenOf pd21 rfl) rfl rfl (q := 111) rfl (fun v7 h7 hQ7 => ?_)
    obtain ⟨rfl, K7, D7⟩ := hQ7
    refine ⟨[(.ref sb)], rfl, ?_⟩
    have KK7 := KK6.trans K7 hab
    have X7 := Ext.keep X1 KK7 (by simp)
    refine g_callV C5 (W := 0) (argsL := []) (rest := []) (a := sb) d17_111 (wd180 hw) (wd181 hw) (wd183 hw) (wd182 hw) (by decide) (nf_of C5 (wd183 hw)) D7.1.1 (Ctr.bk (c_sbstrE l Z a0 G cz fm LG0 sb b 16 (cs ++ [32] ++ [102, 97, 105, 108, 101, 100, 32, 116, 111, 32, 115, 116, 97, 114, 116]) h7 h0.size X7 D7 (Nat.le_trans Z1 KK7.1) (by simp only [List.length_append, List.length_cons, List.length_nil]; omega) ((((EB3.keep K4).ext E5).keep K6).keep K7) (by simp only [List.length_append, List.length_cons, List.length_nil]; omega)) C5 (wd184 hw) (wd116 hw) (by decide) (by decide)) (by decide) (by decide) rfl (lenOf pd22 rfl) rfl rfl (q := 114) rfl (fun v8 h8 hQ8 => ?_)
    obtain ⟨t, rfl, gt, K8, S8⟩ := hQ8
    refine ⟨[(.ref t)], rfl, ?_⟩
    have KK8 : Keep h0 h8 [] := (Ext.kp E1 []).trans (KK7.trans K8 (by simp)) (by simp)
    exact g_areturnW C5 (Sw5.mono (Nat.le_trans K6.1 (Nat.le_trans K7.1 K8.1))) d17_114 rfl rfl Z0 (by decide) (by decide) (fun vm' hW => ⟨t, rfl, Nat.le_trans Z1 (Nat.le_trans KK7.1 gt), KK8, S8⟩)
  ·
    refine g_callV C5 (W := 0) (argsL := [(.ref q1)]) (rest := []) (a := sb) d17_108 (wd132 hw) (wd133 hw) (wd135 hw) (wd134 hw) (by decide) (nf_of C5 (wd135 hw)) D6.1.1 (Ctr.bk (c_appendG l Z a0 G cz fm LG0 sb b (cs ++ [32]) h6 h0.size X6 D6 q1 [102, 97, 105, 108, 101, 100, 32, 116, 111, 32, 115, 116, 97, 114, 116] (S1.keep KK6 (by simp)) (Nat.ne_of_lt (Nat.lt_of_lt_of_le S1.exa.lt g1)) (by simp only [List.length_append, List.length_cons, List.length_nil]; omega) (Nat.le_trans Z1 KK6.1) ga (Nat.le_trans X0.1 ga)) C5 (wd136 hw) (wd116 hw) (by decide) (by decide)) (by decide) (by decide) rfl (lenOf pd21 rfl) rfl rfl (q := 111) rfl (fun v7 h7 hQ7 => ?_)
    obtain ⟨rfl, r, gr, K7, D7⟩ := hQ7
    refine ⟨[(.ref sb)], rfl, ?_⟩
    have KK7 := KK6.trans K7 (fun x hx => Or.inr (by cases List.mem_singleton.mp hx; exact g1))
    have X7 := Ext.keep X1 KK7 (by simp)
    refine g_callV C5 (W := 0) (argsL := []) (rest := []) (a := sb) d17_111 (wd180 hw) (wd181 hw) (wd183 hw) (wd182 hw) (by decide) (nf_of C5 (wd183 hw)) D7.1.1 (Ctr.bk (c_sbstr l Z a0 G cz fm LG0 sb r 34 (cs ++ [32] ++ [102, 97, 105, 108, 101, 100, 32, 116, 111, 32, 115, 116, 97, 114, 116]) h7 h0.size X7 D7 (Nat.le_trans Z1 KK7.1) (by simp only [List.length_append, List.length_cons, List.length_nil]; omega) (by simp only [List.length_append, List.length_cons, List.length_nil]; omega)) C5 (wd184 hw) (wd116 hw) (by decide) (by decide)) (by decide) (by decide) rfl (lenOf pd22 rfl) rfl rfl (q := 114) rfl (fun v8 h8 hQ8 => ?_)
    obtain ⟨t, rfl, gt, K8, S8⟩ := hQ8
    refine ⟨[(.ref t)], rfl, ?_⟩
    have KK8 : Keep h0 h8 [] := (Ext.kp E1 []).trans (KK7.trans K8 (by simp)) (by simp)
    exact g_areturnW C5 (Sw5.mono (Nat.le_trans K6.1 (Nat.le_trans K7.1 K8.1))) d17_114 rfl rfl Z0 (by decide) (by decide) (fun vm' hW => ⟨t, rfl, Nat.le_trans Z1 (Nat.le_trans KK7.1 gt), KK8, S8⟩)
set_option maxRecDepth 65536 in
set_option maxHeartbeats 40000000 in
theorem c_oempty (l : Launch) (Z : State) (a0 : Array Value) (G : Gl Z a0) (o : Addr) (SO : Sta Z Z.heap "java/util/OptionalInt" "EMPTY" "Ljava/util/OptionalInt;" (.ref o)) (h0 : Heap) (n0 : Nat) (X0 : Ext Z.heap h0) :
    Ctr l Z (⟨"java/util/OptionalInt", "empty", "()Ljava/util/OptionalInt;"⟩ : MethodName) jdk_2649_method_2_code 0 (some (.object "java/util/OptionalInt")) rmH0 #[] h0 n0 (fun v h => h0 = h ∧ v = some (.ref o)) := by
  have hw := G.1
  refine Ctr.of (n1 := n0) #[] (plainFor_of_name pn8) (fun m => by first | (simp [entryFrame, mkF, argsToLocals, Value.category, maxLocals]; done) | rfl) ?_
  intro p e s m below meth c C
  refine g_gets C d12_0 (host := "") (Or.inl (wd72 hw)) Via.refl (SO.ext X0) (q := 3) rfl ?_
  refine g_areturn C d12_3 rfl rfl (Nat.le_refl _) (by decide) (by decide) ⟨rfl, rfl⟩
set_option maxRecDepth 65536 in
set_option maxHeartbeats 40000000 in
theorem c_exitStatus (l : Launch) (Z : State) (a0 : Array Value) (G : Gl Z a0) (o : Addr) (SO : Sta Z Z.heap "java/util/OptionalInt" "EMPTY" "Ljava/util/OptionalInt;" (.ref o)) (h0 : Heap) (n0 : Nat) (X0 : Ext Z.heap h0) (a k me : Addr) (F : HOF Z h0 a (.ref k) (.ref me) .null) :
    Ctr l Z (⟨"com/example/notice_to_drain/noticetodrain/drain/HookOutcome", "exitStatus", "()Ljava/util/OptionalInt;"⟩ : MethodName) prog_5_method_7_code 1 (some (.object "java/util/OptionalInt")) rmH1 #[(.ref a)] h0 n0 (fun v h => h0 = h ∧ v = some (.ref o)) := by
  have hw := G.1
  refine Ctr.of (n1 := n0) #[.val (.ref a)] (plainFor_of_name pn6) (fun m => by first | (simp [entryFrame, mkF, argsToLocals, Value.category, maxLocals]; done) | rfl) ?_
  intro p e s m below meth c C
  refine g_aloadN C d11_0 (v := (.ref a)) rfl rfl (q := 1) rfl ?_
  refine g_getf C d11_1 (host := "") (Or.inl (wd51 hw)) Via.refl F.2.2.2 (q := 4) rfl ?_
  refine g_ifnonnullN C (a := 0) d11_4 (q := 7) rfl ?_
  refine g_callS C (W := 0) (argsL := []) (rest := []) d11_7 (wd68 hw) (wd69 hw) (wd70 hw) (wd71 hw) (by decide) (Ctr.bk (c_oempty l Z a0 G o SO h0 n0 X0) C (wd71 hw) (wd70 hw) (by decide) (by decide)) (by decide) (by decide) rfl (lenOf pd23 rfl) rfl rfl (q := 10) rfl (fun v1 h1 hQ1 => ?_)
  obtain ⟨rfl, rfl⟩ := hQ1
  refine ⟨[(.ref o)], rfl, ?_⟩
  refine g_goto C d11_10 (q := 23) (by decide) (by decide) ?_
  refine g_areturn C d11_23 rfl rfl (Nat.le_refl _) (by decide) (by decide) ⟨rfl, rfl⟩
set_option maxRecDepth 65536 in
set_option maxHeartbeats 40000000 in
theorem c_isPresent (l : Launch) (Z : State) (a0 : Array Value) (G : Gl Z a0) (o : Addr) (h0 : Heap) (n0 : Nat) (FP : Fld Z h0 o "java/util/OptionalInt" "isPresent" "Z" (.int 0)) :
    Ctr l Z (⟨"java/util/OptionalInt", "isPresent", "()Z"⟩ : MethodName) jdk_2649_method_6_code 1 (some .boolean) rmH0 #[(.ref o)] h0 n0 (fun v h => h0 = h ∧ v = some (.int 0)) := by
  have hw := G.1
  refine Ctr.of (n1 := n0) #[.val (.ref o)] (plainFor_of_name pn8) (fun m => by first | (simp [entryFrame, mkF, argsToLocals, Value.category, maxLocals]; done) | rfl) ?_
  intro p e s m below meth c C
  refine g_aloadN C d13_0 (v := (.ref o)) rfl rfl (q := 1) rfl ?_
  refine g_getf C d13_1 (host := "") (Or.inl (wd78 hw)) Via.refl FP (q := 4) rfl ?_
  refine g_nreturn C d13_4 (by simp) (z := 0) rfl (Nat.le_refl _) (by decide) (by decide) ⟨rfl, rfl⟩
abbrev BY (c : Int32) : Prop := ¬ c < 0 ∧ ¬ (255 : Int32) < c
theorem ext255 (x : Int32) : BY ((x &&& (255 : Int32)).toUInt32.toUInt16.toUInt32.toInt32) := by
  have t : ∀ k : Fin 256, BY ((Int32.ofNat k.val).toUInt32.toUInt16.toUInt32.toInt32) := by decide +kernel
  have h : (x &&& 255).toBitVec.toNat < 256 := by
    simp only [Int32.toBitVec_and, BitVec.toNat_and]
    exact Nat.lt_succ_of_le Nat.and_le_right
  have e : (x &&& 255) = Int32.ofNat (x &&& 255).toBitVec.toNat := by
    apply Int32.toBitVec_inj.mp
    show _ = BitVec.ofNat 32 _
    rw [BitVec.ofNat_toNat]; simp
  rw [e]
  exact t ⟨_, h⟩
theorem rem_nat {x : Int32} {n : Nat} (h0 : 0 ≤ x.toInt) (hn : 0 < n) (h31 : n < 2 ^ 31) : ∃ K, K < n ∧ x % Int32.ofNat n = Int32.ofNat K := by
  obtain ⟨m, hm⟩ := Int.eq_ofNat_of_zero_le h0
  refine ⟨m % n, Nat.mod_lt _ hn, ?_⟩
  apply Int32.toInt_inj.mp
  have hm2 : m % n < n := Nat.mod_lt _ hn
  rw [Int32.toInt_mod, Int32.toInt_ofNat_of_lt h31, Int32.toInt_ofNat_of_lt (by omega), Int.tmod_eq_emod_of_nonneg h0, hm]
  rfl
theorem and_nn (x : Int32) : 0 ≤ (x &&& (2147483647 : Int32)).toInt := by
  have h : (x &&& 2147483647).toBitVec.toNat ≤ 2147483647 := by
    simp only [Int32.toBitVec_and, BitVec.toNat_and]
    exact Nat.and_le_right
  show 0 ≤ (x &&& 2147483647).toBitVec.toInt
  rw [BitVec.toInt_eq_toNat_of_lt (by omega)]
  omega
set_option maxRecDepth 65536 in
set_option maxHeartbeats 40000000 in
theorem tail {p : Program} {e : Env} {s0 : State} {vm0 : Vm} {m : MethodId} {args : Array Value} {below : List Frame} {meth : Method} {c : Code} (l : Launch) (Z : State) (a0 : Array Value) (G : Gl Z a0) (cz : Int32) (fm : Value) (LG0 : LG Z cz fm) (me t u o : Addr) (SM : Sta Z Z.heap "com/example/notice_to_drain/noticetodrain/drain/HookOutcome$Ending" "UNSTARTED" "Lcom/example/notice_to_drain/noticetodrain/drain/HookOutcome$Ending;" (.ref me)) (ST_ : Sta Z Z.heap "com/example/notice_to_drain/noticetodrain/drain/HookOutcome$Ending" "TIMED_OUT" "Lcom/example/notice_to_drain/noticetodrain/drain/HookOutcome$Ending;" (.ref t)) (SU : Sta Z Z.heap "com/example/notice_to_drain/noticetodrain/drain/HookOutcome$Ending" "UNKNOWN" "Lcom/example/notice_to_drain/noticetodrain/drain/HookOutcome$Ending;" (.ref u)) (hmt : ¬ me = t) (hmu : ¬ me = u) (EM : Exa Z Z.heap me "com/example/notice_to_drain/noticetodrain/drain/HookOutcome$Ending") (FO : Fld Z Z.heap me "java/lang/Enum" "ordinal" "I" (.int 1)) (SO : Sta Z Z.heap "java/util/OptionalInt" "EMPTY" "Ljava/util/OptionalInt;" (.ref o)) (EO : Exa Z Z.heap o "java/util/OptionalInt") (FP : Fld Z Z.heap o "java/util/OptionalInt" "isPresent" "Z" (.int 0)) (Ts : List String) (hT1 : "failed to start" ∉ Ts) (hT2 : " " ∉ "failed to start" :: Ts) (hP0 : IB Z vm0 Ts) (h0 : Heap) (n0 : Nat) (Z0 : n0 ≤ h0.size) (X0 : Ext Z.heap h0) (p0 p1 p2 kk c0 c1 : Int32) (k x : Addr) (cs : List Int32) (hcl : cs.length ≤ 2) (S : SL Z h0 k cs) (T : SL Z h0 x (cs ++ [32] ++ [102, 97, 105, 108, 101, 100, 32, 116, 111, 32, 115, 116, 97, 114, 116])) (C : Cx p (s0.setVm vm0) m meth c Z "com/example/notice_to_drain/noticetodrain/drain/HookOutcomeUnstartedPinLaw" "law" code 15 (some .boolean)) (Sw : Sn s0 vm0 h0) :
    Go p l e room_1 (s0.setVm vm0) m args below meth c (FinW s0 below room_1 n0 (fun v vm h => v = some (.int 1))) n0 h0 14 200 416 #[.val (.int p0), .val (.int p1), .val (.int p2), .val (.int kk), .val (.int c0), .val (.int c1), .val (.ref k), .val (.ref x), .unset, .unset, .unset, .unset, .unset, .unset, .unset] [] := by
  have hw := G.1
  refine g_aload C at_416 (v := (.ref k)) rfl rfl (q := 418) rfl ?_
  refine g_callS C (W := 0) (argsL := [(.ref k)]) (rest := []) at_418 (wd34 hw) (wd35 hw) (wd36 hw) (wd37 hw) (by decide) (Ctr.bk (c_make l Z a0 G me SM k h0 n0 Z0 X0) C (wd37 hw) (wd36 hw) (by decide) (by decide)) (by decide) (by decide) rfl (lenOf pd24 rfl) rfl rfl (q := 421) rfl (fun v1 h1 hQ1 => ?_)
  obtain ⟨a, rfl, ga, K1, F1⟩ := hQ1
  refine ⟨[(.ref a)], rfl, ?_⟩
  have X1 := Ext.keep X0 K1 (by simp)
  have Z1 : n0 ≤ h1.size := Nat.le_trans Z0 K1.1
  have S1 := S.keep K1 (by simp)
  have T1 := T.keep K1 (by simp)
  refine g_astore C at_421 rfl (L' := #[.val (.int p0), .val (.int p1), .val (.int p2), .val (.int kk), .val (.int c0), .val (.int c1), .val (.ref k), .val (.ref x), .val (.ref a), .unset, .unset, .unset, .unset, .unset, .unset]) rfl (q := 423) rfl ?_
  refine g_aload C at_423 (v := (.ref k)) rfl rfl (q := 425) rfl ?_
  refine g_aload C at_425 (v := (.ref a)) rfl rfl (q := 427) rfl ?_
  refine g_callV C (W := 1) (argsL := []) (rest := [(.ref k)]) (a := a) at_427 (wd53 hw) (wd54 hw) (wd56 hw) (wd55 hw) (by decide) (nf_of C (wd56 hw)) F1.1 (Ctr.bk (c_hook l Z a0 G a k me h1 n0 F1) C (wd57 hw) (wd36 hw) (by decide) (by decide)) (by decide) (by decide) rfl (lenOf pd22 rfl) rfl rfl (q := 430) rfl (fun v2 h2 hQ2 => ?_)
  obtain ⟨rfl, rfl⟩ := hQ2
  refine ⟨[(.ref k), (.ref k)], rfl, ?_⟩
  refine g_callV C (W := 0) (argsL := [(.ref k)]) (rest := []) (a := k) at_430 (wd58 hw) (wd59 hw) (wd61 hw) (wd60 hw) (by decide) (nf_of C (wd61 hw)) S1.exa (Ctr.bk (c_equalsR l Z a0 G k h1 n0) C (wd62 hw) (wd3 hw) (by decide) (by decide)) (by decide) (by decide) rfl (lenOf pd25 rfl) rfl rfl (q := 433) rfl (fun v2 h2 hQ2 => ?_)
  obtain ⟨rfl, rfl⟩ := hQ2
  refine ⟨[(.int 1)], rfl, ?_⟩
  refine g_istore C at_433 (L' := #[.val (.int p0), .val (.int p1), .val (.int p2), .val (.int kk), .val (.int c0), .val (.int c1), .val (.ref k), .val (.ref x), .val (.ref a), .val (.int 1), .unset, .unset, .unset, .unset, .unset]) rfl (q := 435) rfl ?_
  refine g_aload C at_435 (v := (.ref a)) rfl rfl (q := 437) rfl ?_
  refine g_callV C (W := 0) (argsL := []) (rest := []) (a := a) at_437 (wd63 hw) (wd64 hw) (wd66 hw) (wd65 hw) (by decide) (nf_of C (wd66 hw)) F1.1 (Ctr.bk (c_exitStatus l Z a0 G o SO h1 n0 X1 a k me F1) C (wd67 hw) (wd36 hw) (by decide) (by decide)) (by decide) (by decide) rfl (lenOf pd23 rfl) rfl rfl (q := 440) rfl (fun v2 h2 hQ2 => ?_)
  obtain ⟨rfl, rfl⟩ := hQ2
  refine ⟨[(.ref o)], rfl, ?_⟩
  refine g_callV C (W := 0) (argsL := []) (rest := []) (a := o) at_440 (wd73 hw) (wd74 hw) (wd76 hw) (wd75 hw) (by decide) (nf_of C (wd76 hw)) (EO.ext X1) (Ctr.bk (c_isPresent l Z a0 G o h1 n0 (FP.ext X1)) C (wd77 hw) (wd70 hw) (by decide) (by decide)) (by decide) (by decide) rfl (lenOf pd13 rfl) rfl rfl (q := 443) rfl (fun v2 h2 hQ2 => ?_)
  obtain ⟨rfl, rfl⟩ := hQ2
  refine ⟨[(.int 0)], rfl, ?_⟩
  refine g_if_ne C at_443 (q' := 450) (q := 446) (by decide) (by decide) rfl (fun hy => absurd rfl hy) (fun hn => ?_)
  refine g_iconst C at_446 (z := (1 : Int32)) rfl (q := 447) rfl ?_
  refine g_goto C at_447 (q := 451) (by decide) (by decide) ?_
  refine g_istore C at_451 (L' := #[.val (.int p0), .val (.int p1), .val (.int p2), .val (.int kk), .val (.int c0), .val (.int c1), .val (.ref k), .val (.ref x), .val (.ref a), .val (.int 1), .val (.int (1 : Int32)), .unset, .unset, .unset, .unset]) rfl (q := 453) rfl ?_
  refine g_aload C at_453 (v := (.ref a)) rfl rfl (q := 455) rfl ?_
  refine g_callV C (W := 0) (argsL := []) (rest := []) (a := a) at_455 (wd80 hw) (wd81 hw) (wd83 hw) (wd82 hw) (by decide) (nf_of C (wd83 hw)) F1.1 (Ctr.bk (c_ok l Z a0 G a k me h1 n0 F1) C (wd84 hw) (wd36 hw) (by decide) (by decide)) (by decide) (by decide) rfl (lenOf pd13 rfl) rfl rfl (q := 458) rfl (fun v2 h2 hQ2 => ?_)
  obtain ⟨rfl, rfl⟩ := hQ2
  refine ⟨[(.int 0)], rfl, ?_⟩
  refine g_if_ne C at_458 (q' := 465) (q := 461) (by decide) (by decide) rfl (fun hy => absurd rfl hy) (fun hn => ?_)
  refine g_iconst C at_461 (z := (1 : Int32)) rfl (q := 462) rfl ?_
  refine g_goto C at_462 (q := 466) (by decide) (by decide) ?_
  refine g_istore C at_466 (L' := #[.val (.int p0), .val (.int p1), .val (.int p2), .val (.int kk), .val (.int c0), .val (.int c1), .val (.ref k), .val (.ref x), .val (.ref a), .val (.int 1), .val (.int (1 : Int32)), .val (.int (1 : Int32)), .unset, .unset, .unset]) rfl (q := 468) rfl ?_
  refine g_aload C at_468 (v := (.ref a)) rfl rfl (q := 470) rfl ?_
  refine g_callV C (W := 0) (argsL := []) (rest := []) (a := a) at_470 (wd85 hw) (wd86 hw) (wd88 hw) (wd87 hw) (by decide) (nf_of C (wd88 hw)) F1.1 (Ctr.bk (c_timedOut l Z a0 G a k me h1 n0 F1 t ST_ X1) C (wd89 hw) (wd36 hw) (by decide) (by decide)) (by decide) (by decide) rfl (lenOf pd13 rfl) rfl rfl (q := 473) rfl (fun v2 h2 hQ2 => ?_)
  obtain ⟨rfl, r, rfl, hA⟩ := hQ2
  refine ⟨[(.int r)], rfl, ?_⟩
  obtain rfl : r = 0 := by
    rcases hA with ⟨e, -⟩ | ⟨-, e⟩
    · exact absurd e hmt
    · exact e
  refine g_if_ne C at_473 (q' := 480) (q := 476) (by decide) (by decide) rfl (fun hy => absurd rfl hy) (fun hn => ?_)
  refine g_iconst C at_476 (z := (1 : Int32)) rfl (q := 477) rfl ?_
  refine g_goto C at_477 (q := 481) (by decide) (by decide) ?_
  refine g_istore C at_481 (L' := #[.val (.int p0), .val (.int p1), .val (.int p2), .val (.int kk), .val (.int c0), .val (.int c1), .val (.ref k), .val (.ref x), .val (.ref a), .val (.int 1), .val (.int (1 : Int32)), .val (.int (1 : Int32)), .val (.int (1 : Int32)), .unset, .unset]) rfl (q := 483) rfl ?_
  refine g_aload C at_483 (v := (.ref a)) rfl rfl (q := 485) rfl ?_
  refine g_callV C (W := 0) (argsL := []) (rest := []) (a := a) at_485 (wd92 hw) (wd93 hw) (wd95 hw) (wd94 hw) (by decide) (nf_of C (wd95 hw)) F1.1 (Ctr.bk (c_exitUnknown l Z a0 G a k me h1 n0 F1 u SU X1) C (wd96 hw) (wd36 hw) (by decide) (by decide)) (by decide) (by decide) rfl (lenOf pd13 rfl) rfl rfl (q := 488) rfl (fun v2 h2 hQ2 => ?_)
  obtain ⟨rfl, r, rfl, hA⟩ := hQ2
  refine ⟨[(.int r)], rfl, ?_⟩
  obtain rfl : r = 0 := by
    rcases hA with ⟨e, -⟩ | ⟨-, e⟩
    · exact absurd e hmu
    · exact e
  refine g_if_ne C at_488 (q' := 495) (q := 491) (by decide) (by decide) rfl (fun hy => absurd rfl hy) (fun hn => ?_)
  refine g_iconst C at_491 (z := (1 : Int32)) rfl (q := 492) rfl ?_
  refine g_goto C at_492 (q := 496) (by decide) (by decide) ?_
  refine g_istore C at_496 (L' := #[.val (.int p0), .val (.int p1), .val (.int p2), .val (.int kk), .val (.int c0), .val (.int c1), .val (.ref k), .val (.ref x), .val (.ref a), .val (.int 1), .val (.int (1 : Int32)), .val (.int (1 : Int32)), .val (.int (1 : Int32)), .val (.int (1 : Int32)), .unset]) rfl (q := 498) rfl ?_
  refine g_aload C at_498 (v := (.ref x)) rfl rfl (q := 500) rfl ?_
  refine g_aload C at_500 (v := (.ref a)) rfl rfl (q := 502) rfl ?_
  refine g_callVW C (W := 1) (argsL := []) (rest := [(.ref x)]) (a := a) (Sw.mono K1.1) at_502 (wd99 hw) (wd100 hw) (wd102 hw) (wd101 hw) (wd36 hw) (wd103 hw) (by decide) (nf_of C (wd102 hw)) F1.1 (c_tostr l Z a0 G cz fm LG0 me EM FO a k cs hcl Ts hT1 hT2 h1 n0 Z1 X1 F1 S1) (by decide) (by decide) (by decide) (by decide) rfl (lenOf pd22 rfl) rfl rfl (q := 505) rfl (fun vm' hW' => IB.warm hP0 hW') (fun v3 vm3 h3 hQ3 C3 Sw3 hW393 => ?_)
  obtain ⟨s, rfl, gt, K3, S3⟩ := hQ3
  refine ⟨[(.ref s), (.ref x)], rfl, ?_⟩
  have X3 := Ext.keep X1 K3 (by simp)
  have T3 := T1.keep K3 (by simp)
  refine g_callV C3 (W := 0) (argsL := [(.ref s)]) (rest := []) (a := x) at_505 (wd58 hw) (wd59 hw) (wd61 hw) (wd60 hw) (by decide) (nf_of C3 (wd61 hw)) T3.exa (Ctr.bk (c_equals l Z a0 G cz LG0.1 LG0.2.1 x s _ _ h3 n0 X3 T3 S3 (Nat.ne_of_lt (Nat.lt_of_lt_of_le T1.exa.lt gt))) C3 (wd62 hw) (wd3 hw) (by decide) (by decide)) (by decide) (by decide) rfl (lenOf pd25 rfl) rfl rfl (q := 508) rfl (fun v4 h4 hQ4 => ?_)
  obtain ⟨rfl, r, rfl, hA⟩ := hQ4
  refine ⟨[(.int r)], rfl, ?_⟩
  obtain rfl : r = 1 := by
    rcases hA with ⟨-, e⟩ | ⟨e, -⟩
    · exact e
    · exact absurd rfl e
  refine g_istore C3 at_508 (L' := #[.val (.int p0), .val (.int p1), .val (.int p2), .val (.int kk), .val (.int c0), .val (.int c1), .val (.ref k), .val (.ref x), .val (.ref a), .val (.int 1), .val (.int (1 : Int32)), .val (.int (1 : Int32)), .val (.int (1 : Int32)), .val (.int (1 : Int32)), .val (.int 1)]) rfl (q := 510) rfl ?_
  refine g_iload C3 at_510 (v := 1) rfl (q := 512) rfl ?_
  refine g_if_eq C3 at_512 (q' := 544) (q := 515) (by decide) (by decide) rfl (fun hy => absurd hy (by decide)) (fun hn => ?_)
  refine g_iload C3 at_515 (v := (1 : Int32)) rfl (q := 517) rfl ?_
  refine g_if_eq C3 at_517 (q' := 544) (q := 520) (by decide) (by decide) rfl (fun hy => absurd hy (by decide)) (fun hn => ?_)
  refine g_iload C3 at_520 (v := (1 : Int32)) rfl (q := 522) rfl ?_
  refine g_if_eq C3 at_522 (q' := 544) (q := 525) (by decide) (by decide) rfl (fun hy => absurd hy (by decide)) (fun hn => ?_)
  refine g_iload C3 at_525 (v := (1 : Int32)) rfl (q := 527) rfl ?_
  refine g_if_eq C3 at_527 (q' := 544) (q := 530) (by decide) (by decide) rfl (fun hy => absurd hy (by decide)) (fun hn => ?_)
  refine g_iload C3 at_530 (v := (1 : Int32)) rfl (q := 532) rfl ?_
  refine g_if_eq C3 at_532 (q' := 544) (q := 535) (by decide) (by decide) rfl (fun hy => absurd hy (by decide)) (fun hn => ?_)
  refine g_iload C3 at_535 (v := 1) rfl (q := 537) rfl ?_
  refine g_if_eq C3 at_537 (q' := 544) (q := 540) (by decide) (by decide) rfl (fun hy => absurd hy (by decide)) (fun hn => ?_)
  refine g_iconst C3 at_540 (z := (1 : Int32)) rfl (q := 541) rfl ?_
  refine g_goto C3 at_541 (q := 545) (by decide) (by decide) ?_
  exact g_nreturnW C3 Sw3 at_545 (by simp) (z := 1) rfl (Nat.le_refl _) (by decide) (by decide) (fun vm' hW => rfl)
set_option maxRecDepth 65536 in
set_option maxHeartbeats 40000000 in
theorem c_law (l : Launch) (Z : State) (a0 : Array Value) (G : Gl Z a0) (cz : Int32) (fm : Value) (LG0 : LG Z cz fm) (me t u o : Addr) (SM : Sta Z Z.heap "com/example/notice_to_drain/noticetodrain/drain/HookOutcome$Ending" "UNSTARTED" "Lcom/example/notice_to_drain/noticetodrain/drain/HookOutcome$Ending;" (.ref me)) (ST_ : Sta Z Z.heap "com/example/notice_to_drain/noticetodrain/drain/HookOutcome$Ending" "TIMED_OUT" "Lcom/example/notice_to_drain/noticetodrain/drain/HookOutcome$Ending;" (.ref t)) (SU : Sta Z Z.heap "com/example/notice_to_drain/noticetodrain/drain/HookOutcome$Ending" "UNKNOWN" "Lcom/example/notice_to_drain/noticetodrain/drain/HookOutcome$Ending;" (.ref u)) (hmt : ¬ me = t) (hmu : ¬ me = u) (EM : Exa Z Z.heap me "com/example/notice_to_drain/noticetodrain/drain/HookOutcome$Ending") (FO : Fld Z Z.heap me "java/lang/Enum" "ordinal" "I" (.int 1)) (SO : Sta Z Z.heap "java/util/OptionalInt" "EMPTY" "Ljava/util/OptionalInt;" (.ref o)) (EO : Exa Z Z.heap o "java/util/OptionalInt") (FP : Fld Z Z.heap o "java/util/OptionalInt" "isPresent" "Z" (.int 0)) (p0 p1 p2 : Int32) (h0 : Heap) (n0 : Nat) (Z0 : n0 ≤ h0.size) (X0 : Ext Z.heap h0) :
    CtrW l Z Jvm.Pilot.@@N@@.x code maxLocals ret room_1 #[(.int p0), (.int p1), (.int p2)] h0 n0 (fun vm => IB Z vm []) (fun v vm h => v = some (.int 1)) := by
  have hw := G.1
  refine CtrW.of (n1 := n0) #[.val (.int p0), .val (.int p1), .val (.int p2), .unset, .unset, .unset, .unset, .unset, .unset, .unset, .unset, .unset, .unset, .unset, .unset] (plainFor_of_name pn9) (fun m => by first | (simp [entryFrame, mkF, argsToLocals, Value.category, maxLocals]; done) | rfl) ?_
  intro p e s0 vm0 m below meth c C hs0 hP0 Sw
  have C : Cx p (s0.setVm vm0) m meth c Z "com/example/notice_to_drain/noticetodrain/drain/HookOutcomeUnstartedPinLaw" "law" code 15 (some .boolean) := C
  refine g_iloadN C at_0 (v := p0) rfl (q := 1) rfl ?_
  refine g_ldcInt C at_1 (wd0 hw) (q := 3) rfl ?_
  refine g_iand C at_3 (q := 4) rfl ?_
  refine g_iconst C at_4 (z := (3 : Int32)) rfl (q := 5) rfl ?_
  refine g_irem C at_5 (by decide) (q := 6) rfl ?_
  obtain ⟨K, hK, eK⟩ : ∃ K, K < 3 ∧ (p0 &&& (2147483647 : Int32)) % 3 = Int32.ofNat K := rem_nat (n := 3) (and_nn p0) (by decide) (by decide)
  rw [eK]
  refine g_istoreN C at_6 (L' := #[.val (.int p0), .val (.int p1), .val (.int p2), .val (.int (Int32.ofNat K)), .unset, .unset, .unset, .unset, .unset, .unset, .unset, .unset, .unset, .unset, .unset]) rfl (q := 7) rfl ?_
  refine g_iloadN C at_7 (v := p1) rfl (q := 8) rfl ?_
  refine g_sipush C at_8 (z := (255 : Int32)) rfl (q := 11) rfl ?_
  refine g_iand C at_11 (q := 12) rfl ?_
  refine g_i2c C at_12 (q := 13) rfl ?_
  obtain ⟨c0, hc0', hc0⟩ : ∃ y, y = ((p1 &&& (255 : Int32)).toUInt32.toUInt16.toUInt32.toInt32) ∧ BY y := ⟨_, rfl, ext255 _⟩
  rw [← hc0']
  refine g_istore C at_13 (L' := #[.val (.int p0), .val (.int p1), .val (.int p2), .val (.int (Int32.ofNat K)), .val (.int c0), .unset, .unset, .unset, .unset, .unset, .unset, .unset, .unset, .unset, .unset]) rfl (q := 15) rfl ?_
  refine g_iloadN C at_15 (v := p2) rfl (q := 16) rfl ?_
  refine g_sipush C at_16 (z := (255 : Int32)) rfl (q := 19) rfl ?_
  refine g_iand C at_19 (q := 20) rfl ?_
  refine g_i2c C at_20 (q := 21) rfl ?_
  obtain ⟨c1, hc1', hc1⟩ : ∃ y, y = ((p2 &&& (255 : Int32)).toUInt32.toUInt16.toUInt32.toInt32) ∧ BY y := ⟨_, rfl, ext255 _⟩
  rw [← hc1']
  refine g_istore C at_21 (L' := #[.val (.int p0), .val (.int p1), .val (.int p2), .val (.int (Int32.ofNat K)), .val (.int c0), .val (.int c1), .unset, .unset, .unset, .unset, .unset, .unset, .unset, .unset, .unset]) rfl (q := 23) rfl ?_
  refine g_iloadN C at_23 (v := (Int32.ofNat K)) rfl (q := 24) rfl ?_
  have d32 : BY 32 := by decide
  have d97 : BY 97 := by decide
  have d100 : BY 100 := by decide
  have d101 : BY 101 := by decide
  have d102 : BY 102 := by decide
  have d105 : BY 105 := by decide
  have d108 : BY 108 := by decide
  have d111 : BY 111 := by decide
  have d114 : BY 114 := by decide
  have d115 : BY 115 := by decide
  have d116 : BY 116 := by decide
  obtain rfl | rfl | rfl : K = 0 ∨ K = 1 ∨ K = 2 := by omega
  ·
    refine g_if_ne C at_24 (q' := 145) (q := 27) (by decide) (by decide) rfl (fun hy => absurd rfl hy) (fun hn => ?_)
    refine g_new C at_27 (wd1 hw) (wd2 hw) (wd3 hw) (by decide) (by decide) (q := 30) rfl (fun sa h1 q1 E1 A1 D1 => ?_)
    refine g_dup C at_30 rfl (q := 31) rfl ?_
    refine g_iconst C at_31 (z := (0 : Int32)) rfl (q := 32) rfl ?_
    refine g_newarray C at_32 (wd4 hw) (by decide) (cap := 0) (by decide) (by decide) (by decide) (by decide) (q := 34) rfl (fun ba h2 k2 q2 E2 A2 => ?_)
    have B2 : Av Z h2 ba .char 0 (fun _ => .int 0) := Av.new A2 (by decide)
    have X2 := Ext.tr (Ext.tr X0 E1) E2
    have Z2 : n0 ≤ h2.size := Nat.le_trans Z0 (Nat.le_trans E1.1 E2.1)
    have Sw2 := Sw.mono (Nat.le_trans E1.1 E2.1)
    refine g_callIW C (W := 1) (argsL := [(.ref ba)]) (rest := [(.ref sa)]) (a := sa) Sw2 at_34 rfl (wd5 hw) (wd6 hw) (wd3 hw) (wd7 hw) (by decide) (c_init1e l Z a0 G sa ba h2 n0 Z2 (by rw [q1]; exact Z0) X2 (A1.ext E2) _ _ ((D1 (Or.inr (wd17 hw)) (ty := .array .byte) (by decide)).ext E2) ((D1 (Or.inr (wd18 hw)) (ty := .byte) (by decide)).ext E2) _ B2) (by decide) (by decide) (by decide) (by decide) rfl (lenOf pd26 rfl) rfl rfl (q := 37) rfl (fun vm' hW' => IB.warm hP0 hW') (fun v3 vm3 h3 hQ3 C3 Sw3 hW393 => ?_)
    obtain ⟨rfl, K3, S3, I3⟩ := hQ3
    refine ⟨[(.ref sa)], rfl, ?_⟩
    have X3 := Ext.keep X2 K3 (fun x hx => by cases List.mem_singleton.mp hx; rw [q1]; exact X0.1)
    have Z3 : n0 ≤ h3.size := Nat.le_trans Z2 K3.1
    refine g_astore C3 at_37 rfl (L' := #[.val (.int p0), .val (.int p1), .val (.int p2), .val (.int (Int32.ofNat 0)), .val (.int c0), .val (.int c1), .val (.ref sa), .unset, .unset, .unset, .unset, .unset, .unset, .unset, .unset]) rfl (q := 39) rfl ?_
    refine g_new C3 at_39 (wd1 hw) (wd2 hw) (wd3 hw) (by decide) (by decide) (q := 42) rfl (fun sr hnr qnr Enr Anr Dnr => ?_)
    refine g_dup C3 at_42 rfl (q := 43) rfl ?_
    refine g_bipush C3 at_43 (z := (16 : Int32)) rfl (q := 45) rfl ?_
    refine g_newarray C3 at_45 (wd4 hw) (by decide) (cap := 16) (by decide) (by decide) (by decide) (by decide) (q := 47) rfl (fun br hbr kbr qbr Ebr Abr => ?_)
    have Br : Av Z hbr br .char 16 (fun _ => .int 0) := Av.new Abr (by decide)
    have Xr := Ext.tr (Ext.tr X3 Enr) Ebr
    have gsr : n0 ≤ sr := by rw [qnr]; exact Z3
    have gbr : n0 ≤ br := by rw [qbr]; exact Nat.le_trans Z3 Enr.1
    have Exr := Anr.ext Ebr
    have nsbr : sr ≠ br := by rw [qbr]; exact Nat.ne_of_lt Anr.lt
    have FVr := (Dnr (Or.inr (wd17 hw)) (ty := .array .byte) (by decide)).ext Ebr
    have FCr := (Dnr (Or.inr (wd18 hw)) (ty := .byte) (by decide)).ext Ebr
    have Kr := Ext.kp (Ext.tr Enr Ebr) []
    have gzr : Z.heap.size ≤ br := by rw [qbr]; exact Nat.le_trans X3.1 Enr.1
    have g0r : h3.size ≤ br := by rw [qbr]; exact Enr.1
    refine g_dup C3 at_47 rfl (q := 48) rfl ?_
    refine g_iconst C3 at_48 (z := (0 : Int32)) rfl (q := 49) rfl ?_
    refine g_bipush C3 at_49 (z := (32 : Int32)) rfl (q := 51) rfl ?_
    refine g_castore C3 at_51 (i := 0) Br (by decide) rfl gbr (q := 52) rfl (fun hr_0 Wr_0 Br => ?_)
    have Exr := Exr.wr Wr_0
    have FVr := FVr.other Wr_0 (Or.inl nsbr)
    have FCr := FCr.other Wr_0 (Or.inl nsbr)
    have Xr := Ext.wr Xr Wr_0 gzr
    have Kr := Kr.wr Wr_0 (Or.inr g0r)
    refine g_dup C3 at_52 rfl (q := 53) rfl ?_
    refine g_iconst C3 at_53 (z := (1 : Int32)) rfl (q := 54) rfl ?_
    refine g_bipush C3 at_54 (z := (102 : Int32)) rfl (q := 56) rfl ?_
    refine g_castore C3 at_56 (i := 1) Br (by decide) rfl gbr (q := 57) rfl (fun hr_1 Wr_1 Br => ?_)
    have Exr := Exr.wr Wr_1
    have FVr := FVr.other Wr_1 (Or.inl nsbr)
    have FCr := FCr.other Wr_1 (Or.inl nsbr)
    have Xr := Ext.wr Xr Wr_1 gzr
    have Kr := Kr.wr Wr_1 (Or.inr g0r)
    refine g_dup C3 at_57 rfl (q := 58) rfl ?_
    refine g_iconst C3 at_58 (z := (2 : Int32)) rfl (q := 59) rfl ?_
    refine g_bipush C3 at_59 (z := (97 : Int32)) rfl (q := 61) rfl ?_
    refine g_castore C3 at_61 (i := 2) Br (by decide) rfl gbr (q := 62) rfl (fun hr_2 Wr_2 Br => ?_)
    have Exr := Exr.wr Wr_2
    have FVr := FVr.other Wr_2 (Or.inl nsbr)
    have FCr := FCr.other Wr_2 (Or.inl nsbr)
    have Xr := Ext.wr Xr Wr_2 gzr
    have Kr := Kr.wr Wr_2 (Or.inr g0r)
    refine g_dup C3 at_62 rfl (q := 63) rfl ?_
    refine g_iconst C3 at_63 (z := (3 : Int32)) rfl (q := 64) rfl ?_
    refine g_bipush C3 at_64 (z := (105 : Int32)) rfl (q := 66) rfl ?_
    refine g_castore C3 at_66 (i := 3) Br (by decide) rfl gbr (q := 67) rfl (fun hr_3 Wr_3 Br => ?_)
    have Exr := Exr.wr Wr_3
    have FVr := FVr.other Wr_3 (Or.inl nsbr)
    have FCr := FCr.other Wr_3 (Or.inl nsbr)
    have Xr := Ext.wr Xr Wr_3 gzr
    have Kr := Kr.wr Wr_3 (Or.inr g0r)
    refine g_dup C3 at_67 rfl (q := 68) rfl ?_
    refine g_iconst C3 at_68 (z := (4 : Int32)) rfl (q := 69) rfl ?_
    refine g_bipush C3 at_69 (z := (108 : Int32)) rfl (q := 71) rfl ?_
    refine g_castore C3 at_71 (i := 4) Br (by decide) rfl gbr (q := 72) rfl (fun hr_4 Wr_4 Br => ?_)
    have Exr := Exr.wr Wr_4
    have FVr := FVr.other Wr_4 (Or.inl nsbr)
    have FCr := FCr.other Wr_4 (Or.inl nsbr)
    have Xr := Ext.wr Xr Wr_4 gzr
    have Kr := Kr.wr Wr_4 (Or.inr g0r)
    refine g_dup C3 at_72 rfl (q := 73) rfl ?_
    refine g_iconst C3 at_73 (z := (5 : Int32)) rfl (q := 74) rfl ?_
    refine g_bipush C3 at_74 (z := (101 : Int32)) rfl (q := 76) rfl ?_
    refine g_castore C3 at_76 (i := 5) Br (by decide) rfl gbr (q := 77) rfl (fun hr_5 Wr_5 Br => ?_)
    have Exr := Exr.wr Wr_5
    have FVr := FVr.other Wr_5 (Or.inl nsbr)
    have FCr := FCr.other Wr_5 (Or.inl nsbr)
    have Xr := Ext.wr Xr Wr_5 gzr
    have Kr := Kr.wr Wr_5 (Or.inr g0r)
    refine g_dup C3 at_77 rfl (q := 78) rfl ?_
    refine g_bipush C3 at_78 (z := (6 : Int32)) rfl (q := 80) rfl ?_
    refine g_bipush C3 at_80 (z := (100 : Int32)) rfl (q := 82) rfl ?_
    refine g_castore C3 at_82 (i := 6) Br (by decide) rfl gbr (q := 83) rfl (fun hr_6 Wr_6 Br => ?_)
    have Exr := Exr.wr Wr_6
    have FVr := FVr.other Wr_6 (Or.inl nsbr)
    have FCr := FCr.other Wr_6 (Or.inl nsbr)
    have Xr := Ext.wr Xr Wr_6 gzr
    have Kr := Kr.wr Wr_6 (Or.inr g0r)
    refine g_dup C3 at_83 rfl (q := 84) rfl ?_
    refine g_bipush C3 at_84 (z := (7 : Int32)) rfl (q := 86) rfl ?_
    refine g_bipush C3 at_86 (z := (32 : Int32)) rfl (q := 88) rfl ?_
    refine g_castore C3 at_88 (i := 7) Br (by decide) rfl gbr (q := 89) rfl (fun hr_7 Wr_7 Br => ?_)
    have Exr := Exr.wr Wr_7
    have FVr := FVr.other Wr_7 (Or.inl nsbr)
    have FCr := FCr.other Wr_7 (Or.inl nsbr)
    have Xr := Ext.wr Xr Wr_7 gzr
    have Kr := Kr.wr Wr_7 (Or.inr g0r)
    refine g_dup C3 at_89 rfl (q := 90) rfl ?_
    refine g_bipush C3 at_90 (z := (8 : Int32)) rfl (q := 92) rfl ?_
    refine g_bipush C3 at_92 (z := (116 : Int32)) rfl (q := 94) rfl ?_
    refine g_castore C3 at_94 (i := 8) Br (by decide) rfl gbr (q := 95) rfl (fun hr_8 Wr_8 Br => ?_)
    have Exr := Exr.wr Wr_8
    have FVr := FVr.other Wr_8 (Or.inl nsbr)
    have FCr := FCr.other Wr_8 (Or.inl nsbr)
    have Xr := Ext.wr Xr Wr_8 gzr
    have Kr := Kr.wr Wr_8 (Or.inr g0r)
    refine g_dup C3 at_95 rfl (q := 96) rfl ?_
    refine g_bipush C3 at_96 (z := (9 : Int32)) rfl (q := 98) rfl ?_
    refine g_bipush C3 at_98 (z := (111 : Int32)) rfl (q := 100) rfl ?_
    refine g_castore C3 at_100 (i := 9) Br (by decide) rfl gbr (q := 101) rfl (fun hr_9 Wr_9 Br => ?_)
    have Exr := Exr.wr Wr_9
    have FVr := FVr.other Wr_9 (Or.inl nsbr)
    have FCr := FCr.other Wr_9 (Or.inl nsbr)
    have Xr := Ext.wr Xr Wr_9 gzr
    have Kr := Kr.wr Wr_9 (Or.inr g0r)
    refine g_dup C3 at_101 rfl (q := 102) rfl ?_
    refine g_bipush C3 at_102 (z := (10 : Int32)) rfl (q := 104) rfl ?_
    refine g_bipush C3 at_104 (z := (32 : Int32)) rfl (q := 106) rfl ?_
    refine g_castore C3 at_106 (i := 10) Br (by decide) rfl gbr (q := 107) rfl (fun hr_10 Wr_10 Br => ?_)
    have Exr := Exr.wr Wr_10
    have FVr := FVr.other Wr_10 (Or.inl nsbr)
    have FCr := FCr.other Wr_10 (Or.inl nsbr)
    have Xr := Ext.wr Xr Wr_10 gzr
    have Kr := Kr.wr Wr_10 (Or.inr g0r)
    refine g_dup C3 at_107 rfl (q := 108) rfl ?_
    refine g_bipush C3 at_108 (z := (11 : Int32)) rfl (q := 110) rfl ?_
    refine g_bipush C3 at_110 (z := (115 : Int32)) rfl (q := 112) rfl ?_
    refine g_castore C3 at_112 (i := 11) Br (by decide) rfl gbr (q := 113) rfl (fun hr_11 Wr_11 Br => ?_)
    have Exr := Exr.wr Wr_11
    have FVr := FVr.other Wr_11 (Or.inl nsbr)
    have FCr := FCr.other Wr_11 (Or.inl nsbr)
    have Xr := Ext.wr Xr Wr_11 gzr
    have Kr := Kr.wr Wr_11 (Or.inr g0r)
    refine g_dup C3 at_113 rfl (q := 114) rfl ?_
    refine g_bipush C3 at_114 (z := (12 : Int32)) rfl (q := 116) rfl ?_
    refine g_bipush C3 at_116 (z := (116 : Int32)) rfl (q := 118) rfl ?_
    refine g_castore C3 at_118 (i := 12) Br (by decide) rfl gbr (q := 119) rfl (fun hr_12 Wr_12 Br => ?_)
    have Exr := Exr.wr Wr_12
    have FVr := FVr.other Wr_12 (Or.inl nsbr)
    have FCr := FCr.other Wr_12 (Or.inl nsbr)
    have Xr := Ext.wr Xr Wr_12 gzr
    have Kr := Kr.wr Wr_12 (Or.inr g0r)
    refine g_dup C3 at_119 rfl (q := 120) rfl ?_
    refine g_bipush C3 at_120 (z := (13 : Int32)) rfl (q := 122) rfl ?_
    refine g_bipush C3 at_122 (z := (97 : Int32)) rfl (q := 124) rfl ?_
    refine g_castore C3 at_124 (i := 13) Br (by decide) rfl gbr (q := 125) rfl (fun hr_13 Wr_13 Br => ?_)
    have Exr := Exr.wr Wr_13
    have FVr := FVr.other Wr_13 (Or.inl nsbr)
    have FCr := FCr.other Wr_13 (Or.inl nsbr)
    have Xr := Ext.wr Xr Wr_13 gzr
    have Kr := Kr.wr Wr_13 (Or.inr g0r)
    refine g_dup C3 at_125 rfl (q := 126) rfl ?_
    refine g_bipush C3 at_126 (z := (14 : Int32)) rfl (q := 128) rfl ?_
    refine g_bipush C3 at_128 (z := (114 : Int32)) rfl (q := 130) rfl ?_
    refine g_castore C3 at_130 (i := 14) Br (by decide) rfl gbr (q := 131) rfl (fun hr_14 Wr_14 Br => ?_)
    have Exr := Exr.wr Wr_14
    have FVr := FVr.other Wr_14 (Or.inl nsbr)
    have FCr := FCr.other Wr_14 (Or.inl nsbr)
    have Xr := Ext.wr Xr Wr_14 gzr
    have Kr := Kr.wr Wr_14 (Or.inr g0r)
    refine g_dup C3 at_131 rfl (q := 132) rfl ?_
    refine g_bipush C3 at_132 (z := (15 : Int32)) rfl (q := 134) rfl ?_
    refine g_bipush C3 at_134 (z := (116 : Int32)) rfl (q := 136) rfl ?_
    refine g_castore C3 at_136 (i := 15) Br (by decide) rfl gbr (q := 137) rfl (fun hr_15 Wr_15 Br => ?_)
    have Exr := Exr.wr Wr_15
    have FVr := FVr.other Wr_15 (Or.inl nsbr)
    have FCr := FCr.other Wr_15 (Or.inl nsbr)
    have Xr := Ext.wr Xr Wr_15 gzr
    have Kr := Kr.wr Wr_15 (Or.inr g0r)
    have hpcr : ∀ c ∈ ([32, 102, 97, 105, 108, 101, 100, 32, 116, 111, 32, 115, 116, 97, 114, 116] : List Int32), ¬ c < 0 ∧ ¬ (255 : Int32) < c := by
      intro c hc
      simp only [List.mem_cons, List.not_mem_nil, or_false] at hc
      rcases hc with rfl | rfl | rfl | rfl | rfl | rfl | rfl | rfl | rfl | rfl | rfl | rfl | rfl | rfl | rfl | rfl
      · exact d32
      · exact d102
      · exact d97
      · exact d105
      · exact d108
      · exact d101
      · exact d100
      · exact d32
      · exact d116
      · exact d111
      · exact d32
      · exact d115
      · exact d116
      · exact d97
      · exact d114
      · exact d116
    have Zcr : n0 ≤ hr_15.size := Nat.le_trans Z3 Kr.1
    refine g_callI C3 (W := 1) (argsL := [(.ref br)]) (rest := [(.ref sr)]) (a := sr) at_137 rfl (wd5 hw) (wd6 hw) (wd7 hw) (by decide) (bk_str (cs := [32, 102, 97, 105, 108, 101, 100, 32, 116, 111, 32, 115, 116, 97, 114, 116]) C3 hw (wd2 hw) gsr Zcr Exr FVr FCr Br (fun j hj => by
          obtain rfl | rfl | rfl | rfl | rfl | rfl | rfl | rfl | rfl | rfl | rfl | rfl | rfl | rfl | rfl | rfl : j = 0 ∨ j = 1 ∨ j = 2 ∨ j = 3 ∨ j = 4 ∨ j = 5 ∨ j = 6 ∨ j = 7 ∨ j = 8 ∨ j = 9 ∨ j = 10 ∨ j = 11 ∨ j = 12 ∨ j = 13 ∨ j = 14 ∨ j = 15 := by omega
          all_goals simp [byte_nar d32, byte_nar d102, byte_nar d97, byte_nar d105, byte_nar d108, byte_nar d101, byte_nar d100, byte_nar d116, byte_nar d111, byte_nar d115, byte_nar d114]) (LG0.1.ext Xr) LG0.2.1 rfl (by decide) (by decide) hpcr (by decide) (by decide)) (by decide) (by decide) rfl (lenOf pd26 rfl) rfl rfl (q := 140) rfl (fun vr hr hQr => ?_)
    obtain ⟨rfl, Ksr, Esr, Csr, tar, kbr, -, -, -, Vsr, Asr⟩ := hQr
    refine ⟨[(.ref sr)], rfl, ?_⟩
    have Sr : SL Z hr sr [32, 102, 97, 105, 108, 101, 100, 32, 116, 111, 32, 115, 116, 97, 114, 116] := SL.of (n := 16) rfl (by decide) Esr Csr Vsr Asr hpcr
    have Ktr : Keep h3 hr [] := Kr.trans Ksr (fun x hx => Or.inr (by cases List.mem_singleton.mp hx; rw [qnr]; exact Nat.le_refl _))
    have Xr' := Ext.keep X3 Ktr (by simp)
    have Zr' : n0 ≤ hr.size := Nat.le_trans Z3 Ktr.1
    have Swr := Sw3.mono Ktr.1
    have S9 := S3.keep Ktr (by simp)
    refine g_astore C3 at_140 rfl (L' := #[.val (.int p0), .val (.int p1), .val (.int p2), .val (.int (Int32.ofNat 0)), .val (.int c0), .val (.int c1), .val (.ref sa), .val (.ref sr), .unset, .unset, .unset, .unset, .unset, .unset, .unset]) rfl (q := 142) rfl ?_
    refine g_goto C3 at_142 (q := 416) (by decide) (by decide) ?_
    exact Go.more (k' := 14) (n' := 200) (by decide) (by decide) (tail l Z a0 G cz fm LG0 me t u o SM ST_ SU hmt hmu EM FO SO EO FP [""] (by decide) (by decide) I3 hr n0 Zr' Xr' p0 p1 p2 _ c0 c1 sa sr [] (by simp) S9 Sr C3 Swr)
  ·
    refine g_if_ne C at_24 (q' := 145) (q := 27) (by decide) (by decide) rfl (fun hy => ?_) (fun hn => absurd hn (by decide))
    refine g_iloadN C at_145 (v := (Int32.ofNat 1)) rfl (q := 146) rfl ?_
    refine g_iconst C at_146 (z := (1 : Int32)) rfl (q := 147) rfl ?_
    refine g_icmp_ne C at_147 (q' := 279) (q := 150) (by decide) (by decide) rfl (fun hy => absurd rfl hy) (fun hn => ?_)
    refine g_new C at_150 (wd1 hw) (wd2 hw) (wd3 hw) (by decide) (by decide) (q := 153) rfl (fun sq hnq qnq Enq Anq Dnq => ?_)
    refine g_dup C at_153 rfl (q := 154) rfl ?_
    refine g_iconst C at_154 (z := (1 : Int32)) rfl (q := 155) rfl ?_
    refine g_newarray C at_155 (wd4 hw) (by decide) (cap := 1) (by decide) (by decide) (by decide) (by decide) (q := 157) rfl (fun bq hbq kbq qbq Ebq Abq => ?_)
    have Bq : Av Z hbq bq .char 1 (fun _ => .int 0) := Av.new Abq (by decide)
    have Xq := Ext.tr (Ext.tr X0 Enq) Ebq
    have gsq : n0 ≤ sq := by rw [qnq]; exact Z0
    have gbq : n0 ≤ bq := by rw [qbq]; exact Nat.le_trans Z0 Enq.1
    have Exq := Anq.ext Ebq
    have nsbq : sq ≠ bq := by rw [qbq]; exact Nat.ne_of_lt Anq.lt
    have FVq := (Dnq (Or.inr (wd17 hw)) (ty := .array .byte) (by decide)).ext Ebq
    have FCq := (Dnq (Or.inr (wd18 hw)) (ty := .byte) (by decide)).ext Ebq
    have Kq := Ext.kp (Ext.tr Enq Ebq) []
    have gzq : Z.heap.size ≤ bq := by rw [qbq]; exact Nat.le_trans X0.1 Enq.1
    have g0q : h0.size ≤ bq := by rw [qbq]; exact Enq.1
    refine g_dup C at_157 rfl (q := 158) rfl ?_
    refine g_iconst C at_158 (z := (0 : Int32)) rfl (q := 159) rfl ?_
    refine g_iload C at_159 (v := c0) rfl (q := 161) rfl ?_
    refine g_castore C at_161 (i := 0) Bq (by decide) rfl gbq (q := 162) rfl (fun hq_0 Wq_0 Bq => ?_)
    have Exq := Exq.wr Wq_0
    have FVq := FVq.other Wq_0 (Or.inl nsbq)
    have FCq := FCq.other Wq_0 (Or.inl nsbq)
    have Xq := Ext.wr Xq Wq_0 gzq
    have Kq := Kq.wr Wq_0 (Or.inr g0q)
    have hpcq : ∀ c ∈ ([c0] : List Int32), ¬ c < 0 ∧ ¬ (255 : Int32) < c := by
      intro c hc
      simp only [List.mem_cons, List.not_mem_nil, or_false] at hc
      rcases hc with rfl
      · exact hc0
    have Zcq : n0 ≤ hq_0.size := Nat.le_trans Z0 Kq.1
    refine g_callI C (W := 1) (argsL := [(.ref bq)]) (rest := [(.ref sq)]) (a := sq) at_162 rfl (wd5 hw) (wd6 hw) (wd7 hw) (by decide) (bk_str (cs := [c0]) C hw (wd2 hw) gsq Zcq Exq FVq FCq Bq (fun j hj => by
          obtain rfl : j = 0 := by omega
          all_goals simp [byte_nar hc0]) (LG0.1.ext Xq) LG0.2.1 rfl (by decide) (by decide) hpcq (by decide) (by decide)) (by decide) (by decide) rfl (lenOf pd26 rfl) rfl rfl (q := 165) rfl (fun vq hq hQq => ?_)
    obtain ⟨rfl, Ksq, Esq, Csq, taq, kbq, -, -, -, Vsq, Asq⟩ := hQq
    refine ⟨[(.ref sq)], rfl, ?_⟩
    have Sq : SL Z hq sq [c0] := SL.of (n := 1) rfl (by decide) Esq Csq Vsq Asq hpcq
    have Ktq : Keep h0 hq [] := Kq.trans Ksq (fun x hx => Or.inr (by cases List.mem_singleton.mp hx; rw [qnq]; exact Nat.le_refl _))
    have Xq' := Ext.keep X0 Ktq (by simp)
    have Zq' : n0 ≤ hq.size := Nat.le_trans Z0 Ktq.1
    have Swq := Sw.mono Ktq.1
    refine g_astore C at_165 rfl (L' := #[.val (.int p0), .val (.int p1), .val (.int p2), .val (.int (Int32.ofNat 1)), .val (.int c0), .val (.int c1), .val (.ref sq), .unset, .unset, .unset, .unset, .unset, .unset, .unset, .unset]) rfl (q := 167) rfl ?_
    refine g_new C at_167 (wd1 hw) (wd2 hw) (wd3 hw) (by decide) (by decide) (q := 170) rfl (fun sr hnr qnr Enr Anr Dnr => ?_)
    refine g_dup C at_170 rfl (q := 171) rfl ?_
    refine g_bipush C at_171 (z := (17 : Int32)) rfl (q := 173) rfl ?_
    refine g_newarray C at_173 (wd4 hw) (by decide) (cap := 17) (by decide) (by decide) (by decide) (by decide) (q := 175) rfl (fun br hbr kbr qbr Ebr Abr => ?_)
    have Br : Av Z hbr br .char 17 (fun _ => .int 0) := Av.new Abr (by decide)
    have Xr := Ext.tr (Ext.tr Xq' Enr) Ebr
    have gsr : n0 ≤ sr := by rw [qnr]; exact Zq'
    have gbr : n0 ≤ br := by rw [qbr]; exact Nat.le_trans Zq' Enr.1
    have Exr := Anr.ext Ebr
    have nsbr : sr ≠ br := by rw [qbr]; exact Nat.ne_of_lt Anr.lt
    have FVr := (Dnr (Or.inr (wd17 hw)) (ty := .array .byte) (by decide)).ext Ebr
    have FCr := (Dnr (Or.inr (wd18 hw)) (ty := .byte) (by decide)).ext Ebr
    have Kr := Ext.kp (Ext.tr Enr Ebr) []
    have gzr : Z.heap.size ≤ br := by rw [qbr]; exact Nat.le_trans Xq'.1 Enr.1
    have g0r : hq.size ≤ br := by rw [qbr]; exact Enr.1
    refine g_dup C at_175 rfl (q := 176) rfl ?_
    refine g_iconst C at_176 (z := (0 : Int32)) rfl (q := 177) rfl ?_
    refine g_iload C at_177 (v := c0) rfl (q := 179) rfl ?_
    refine g_castore C at_179 (i := 0) Br (by decide) rfl gbr (q := 180) rfl (fun hr_0 Wr_0 Br => ?_)
    have Exr := Exr.wr Wr_0
    have FVr := FVr.other Wr_0 (Or.inl nsbr)
    have FCr := FCr.other Wr_0 (Or.inl nsbr)
    have Xr := Ext.wr Xr Wr_0 gzr
    have Kr := Kr.wr Wr_0 (Or.inr g0r)
    refine g_dup C at_180 rfl (q := 181) rfl ?_
    refine g_iconst C at_181 (z := (1 : Int32)) rfl (q := 182) rfl ?_
    refine g_bipush C at_182 (z := (32 : Int32)) rfl (q := 184) rfl ?_
    refine g_castore C at_184 (i := 1) Br (by decide) rfl gbr (q := 185) rfl (fun hr_1 Wr_1 Br => ?_)
    have Exr := Exr.wr Wr_1
    have FVr := FVr.other Wr_1 (Or.inl nsbr)
    have FCr := FCr.other Wr_1 (Or.inl nsbr)
    have Xr := Ext.wr Xr Wr_1 gzr
    have Kr := Kr.wr Wr_1 (Or.inr g0r)
    refine g_dup C at_185 rfl (q := 186) rfl ?_
    refine g_iconst C at_186 (z := (2 : Int32)) rfl (q := 187) rfl ?_
    refine g_bipush C at_187 (z := (102 : Int32)) rfl (q := 189) rfl ?_
    refine g_castore C at_189 (i := 2) Br (by decide) rfl gbr (q := 190) rfl (fun hr_2 Wr_2 Br => ?_)
    have Exr := Exr.wr Wr_2
    have FVr := FVr.other Wr_2 (Or.inl nsbr)
    have FCr := FCr.other Wr_2 (Or.inl nsbr)
    have Xr := Ext.wr Xr Wr_2 gzr
    have Kr := Kr.wr Wr_2 (Or.inr g0r)
    refine g_dup C at_190 rfl (q := 191) rfl ?_
    refine g_iconst C at_191 (z := (3 : Int32)) rfl (q := 192) rfl ?_
    refine g_bipush C at_192 (z := (97 : Int32)) rfl (q := 194) rfl ?_
    refine g_castore C at_194 (i := 3) Br (by decide) rfl gbr (q := 195) rfl (fun hr_3 Wr_3 Br => ?_)
    have Exr := Exr.wr Wr_3
    have FVr := FVr.other Wr_3 (Or.inl nsbr)
    have FCr := FCr.other Wr_3 (Or.inl nsbr)
    have Xr := Ext.wr Xr Wr_3 gzr
    have Kr := Kr.wr Wr_3 (Or.inr g0r)
    refine g_dup C at_195 rfl (q := 196) rfl ?_
    refine g_iconst C at_196 (z := (4 : Int32)) rfl (q := 197) rfl ?_
    refine g_bipush C at_197 (z := (105 : Int32)) rfl (q := 199) rfl ?_
    refine g_castore C at_199 (i := 4) Br (by decide) rfl gbr (q := 200) rfl (fun hr_4 Wr_4 Br => ?_)
    have Exr := Exr.wr Wr_4
    have FVr := FVr.other Wr_4 (Or.inl nsbr)
    have FCr := FCr.other Wr_4 (Or.inl nsbr)
    have Xr := Ext.wr Xr Wr_4 gzr
    have Kr := Kr.wr Wr_4 (Or.inr g0r)
    refine g_dup C at_200 rfl (q := 201) rfl ?_
    refine g_iconst C at_201 (z := (5 : Int32)) rfl (q := 202) rfl ?_
    refine g_bipush C at_202 (z := (108 : Int32)) rfl (q := 204) rfl ?_
    refine g_castore C at_204 (i := 5) Br (by decide) rfl gbr (q := 205) rfl (fun hr_5 Wr_5 Br => ?_)
    have Exr := Exr.wr Wr_5
    have FVr := FVr.other Wr_5 (Or.inl nsbr)
    have FCr := FCr.other Wr_5 (Or.inl nsbr)
    have Xr := Ext.wr Xr Wr_5 gzr
    have Kr := Kr.wr Wr_5 (Or.inr g0r)
    refine g_dup C at_205 rfl (q := 206) rfl ?_
    refine g_bipush C at_206 (z := (6 : Int32)) rfl (q := 208) rfl ?_
    refine g_bipush C at_208 (z := (101 : Int32)) rfl (q := 210) rfl ?_
    refine g_castore C at_210 (i := 6) Br (by decide) rfl gbr (q := 211) rfl (fun hr_6 Wr_6 Br => ?_)
    have Exr := Exr.wr Wr_6
    have FVr := FVr.other Wr_6 (Or.inl nsbr)
    have FCr := FCr.other Wr_6 (Or.inl nsbr)
    have Xr := Ext.wr Xr Wr_6 gzr
    have Kr := Kr.wr Wr_6 (Or.inr g0r)
    refine g_dup C at_211 rfl (q := 212) rfl ?_
    refine g_bipush C at_212 (z := (7 : Int32)) rfl (q := 214) rfl ?_
    refine g_bipush C at_214 (z := (100 : Int32)) rfl (q := 216) rfl ?_
    refine g_castore C at_216 (i := 7) Br (by decide) rfl gbr (q := 217) rfl (fun hr_7 Wr_7 Br => ?_)
    have Exr := Exr.wr Wr_7
    have FVr := FVr.other Wr_7 (Or.inl nsbr)
    have FCr := FCr.other Wr_7 (Or.inl nsbr)
    have Xr := Ext.wr Xr Wr_7 gzr
    have Kr := Kr.wr Wr_7 (Or.inr g0r)
    refine g_dup C at_217 rfl (q := 218) rfl ?_
    refine g_bipush C at_218 (z := (8 : Int32)) rfl (q := 220) rfl ?_
    refine g_bipush C at_220 (z := (32 : Int32)) rfl (q := 222) rfl ?_
    refine g_castore C at_222 (i := 8) Br (by decide) rfl gbr (q := 223) rfl (fun hr_8 Wr_8 Br => ?_)
    have Exr := Exr.wr Wr_8
    have FVr := FVr.other Wr_8 (Or.inl nsbr)
    have FCr := FCr.other Wr_8 (Or.inl nsbr)
    have Xr := Ext.wr Xr Wr_8 gzr
    have Kr := Kr.wr Wr_8 (Or.inr g0r)
    refine g_dup C at_223 rfl (q := 224) rfl ?_
    refine g_bipush C at_224 (z := (9 : Int32)) rfl (q := 226) rfl ?_
    refine g_bipush C at_226 (z := (116 : Int32)) rfl (q := 228) rfl ?_
    refine g_castore C at_228 (i := 9) Br (by decide) rfl gbr (q := 229) rfl (fun hr_9 Wr_9 Br => ?_)
    have Exr := Exr.wr Wr_9
    have FVr := FVr.other Wr_9 (Or.inl nsbr)
    have FCr := FCr.other Wr_9 (Or.inl nsbr)
    have Xr := Ext.wr Xr Wr_9 gzr
    have Kr := Kr.wr Wr_9 (Or.inr g0r)
    refine g_dup C at_229 rfl (q := 230) rfl ?_
    refine g_bipush C at_230 (z := (10 : Int32)) rfl (q := 232) rfl ?_
    refine g_bipush C at_232 (z := (111 : Int32)) rfl (q := 234) rfl ?_
    refine g_castore C at_234 (i := 10) Br (by decide) rfl gbr (q := 235) rfl (fun hr_10 Wr_10 Br => ?_)
    have Exr := Exr.wr Wr_10
    have FVr := FVr.other Wr_10 (Or.inl nsbr)
    have FCr := FCr.other Wr_10 (Or.inl nsbr)
    have Xr := Ext.wr Xr Wr_10 gzr
    have Kr := Kr.wr Wr_10 (Or.inr g0r)
    refine g_dup C at_235 rfl (q := 236) rfl ?_
    refine g_bipush C at_236 (z := (11 : Int32)) rfl (q := 238) rfl ?_
    refine g_bipush C at_238 (z := (32 : Int32)) rfl (q := 240) rfl ?_
    refine g_castore C at_240 (i := 11) Br (by decide) rfl gbr (q := 241) rfl (fun hr_11 Wr_11 Br => ?_)
    have Exr := Exr.wr Wr_11
    have FVr := FVr.other Wr_11 (Or.inl nsbr)
    have FCr := FCr.other Wr_11 (Or.inl nsbr)
    have Xr := Ext.wr Xr Wr_11 gzr
    have Kr := Kr.wr Wr_11 (Or.inr g0r)
    refine g_dup C at_241 rfl (q := 242) rfl ?_
    refine g_bipush C at_242 (z := (12 : Int32)) rfl (q := 244) rfl ?_
    refine g_bipush C at_244 (z := (115 : Int32)) rfl (q := 246) rfl ?_
    refine g_castore C at_246 (i := 12) Br (by decide) rfl gbr (q := 247) rfl (fun hr_12 Wr_12 Br => ?_)
    have Exr := Exr.wr Wr_12
    have FVr := FVr.other Wr_12 (Or.inl nsbr)
    have FCr := FCr.other Wr_12 (Or.inl nsbr)
    have Xr := Ext.wr Xr Wr_12 gzr
    have Kr := Kr.wr Wr_12 (Or.inr g0r)
    refine g_dup C at_247 rfl (q := 248) rfl ?_
    refine g_bipush C at_248 (z := (13 : Int32)) rfl (q := 250) rfl ?_
    refine g_bipush C at_250 (z := (116 : Int32)) rfl (q := 252) rfl ?_
    refine g_castore C at_252 (i := 13) Br (by decide) rfl gbr (q := 253) rfl (fun hr_13 Wr_13 Br => ?_)
    have Exr := Exr.wr Wr_13
    have FVr := FVr.other Wr_13 (Or.inl nsbr)
    have FCr := FCr.other Wr_13 (Or.inl nsbr)
    have Xr := Ext.wr Xr Wr_13 gzr
    have Kr := Kr.wr Wr_13 (Or.inr g0r)
    refine g_dup C at_253 rfl (q := 254) rfl ?_
    refine g_bipush C at_254 (z := (14 : Int32)) rfl (q := 256) rfl ?_
    refine g_bipush C at_256 (z := (97 : Int32)) rfl (q := 258) rfl ?_
    refine g_castore C at_258 (i := 14) Br (by decide) rfl gbr (q := 259) rfl (fun hr_14 Wr_14 Br => ?_)
    have Exr := Exr.wr Wr_14
    have FVr := FVr.other Wr_14 (Or.inl nsbr)
    have FCr := FCr.other Wr_14 (Or.inl nsbr)
    have Xr := Ext.wr Xr Wr_14 gzr
    have Kr := Kr.wr Wr_14 (Or.inr g0r)
    refine g_dup C at_259 rfl (q := 260) rfl ?_
    refine g_bipush C at_260 (z := (15 : Int32)) rfl (q := 262) rfl ?_
    refine g_bipush C at_262 (z := (114 : Int32)) rfl (q := 264) rfl ?_
    refine g_castore C at_264 (i := 15) Br (by decide) rfl gbr (q := 265) rfl (fun hr_15 Wr_15 Br => ?_)
    have Exr := Exr.wr Wr_15
    have FVr := FVr.other Wr_15 (Or.inl nsbr)
    have FCr := FCr.other Wr_15 (Or.inl nsbr)
    have Xr := Ext.wr Xr Wr_15 gzr
    have Kr := Kr.wr Wr_15 (Or.inr g0r)
    refine g_dup C at_265 rfl (q := 266) rfl ?_
    refine g_bipush C at_266 (z := (16 : Int32)) rfl (q := 268) rfl ?_
    refine g_bipush C at_268 (z := (116 : Int32)) rfl (q := 270) rfl ?_
    refine g_castore C at_270 (i := 16) Br (by decide) rfl gbr (q := 271) rfl (fun hr_16 Wr_16 Br => ?_)
    have Exr := Exr.wr Wr_16
    have FVr := FVr.other Wr_16 (Or.inl nsbr)
    have FCr := FCr.other Wr_16 (Or.inl nsbr)
    have Xr := Ext.wr Xr Wr_16 gzr
    have Kr := Kr.wr Wr_16 (Or.inr g0r)
    have hpcr : ∀ c ∈ ([c0, 32, 102, 97, 105, 108, 101, 100, 32, 116, 111, 32, 115, 116, 97, 114, 116] : List Int32), ¬ c < 0 ∧ ¬ (255 : Int32) < c := by
      intro c hc
      simp only [List.mem_cons, List.not_mem_nil, or_false] at hc
      rcases hc with rfl | rfl | rfl | rfl | rfl | rfl | rfl | rfl | rfl | rfl | rfl | rfl | rfl | rfl | rfl | rfl | rfl
      · exact hc0
      · exact d32
      · exact d102
      · exact d97
      · exact d105
      · exact d108
      · exact d101
      · exact d100
      · exact d32
      · exact d116
      · exact d111
      · exact d32
      · exact d115
      · exact d116
      · exact d97
      · exact d114
      · exact d116
    have Zcr : n0 ≤ hr_16.size := Nat.le_trans Zq' Kr.1
    refine g_callI C (W := 1) (argsL := [(.ref br)]) (rest := [(.ref sr)]) (a := sr) at_271 rfl (wd5 hw) (wd6 hw) (wd7 hw) (by decide) (bk_str (cs := [c0, 32, 102, 97, 105, 108, 101, 100, 32, 116, 111, 32, 115, 116, 97, 114, 116]) C hw (wd2 hw) gsr Zcr Exr FVr FCr Br (fun j hj => by
          obtain rfl | rfl | rfl | rfl | rfl | rfl | rfl | rfl | rfl | rfl | rfl | rfl | rfl | rfl | rfl | rfl | rfl : j = 0 ∨ j = 1 ∨ j = 2 ∨ j = 3 ∨ j = 4 ∨ j = 5 ∨ j = 6 ∨ j = 7 ∨ j = 8 ∨ j = 9 ∨ j = 10 ∨ j = 11 ∨ j = 12 ∨ j = 13 ∨ j = 14 ∨ j = 15 ∨ j = 16 := by omega
          all_goals simp [byte_nar hc0, byte_nar d32, byte_nar d102, byte_nar d97, byte_nar d105, byte_nar d108, byte_nar d101, byte_nar d100, byte_nar d116, byte_nar d111, byte_nar d115, byte_nar d114]) (LG0.1.ext Xr) LG0.2.1 rfl (by decide) (by decide) hpcr (by decide) (by decide)) (by decide) (by decide) rfl (lenOf pd26 rfl) rfl rfl (q := 274) rfl (fun vr hr hQr => ?_)
    obtain ⟨rfl, Ksr, Esr, Csr, tar, kbr, -, -, -, Vsr, Asr⟩ := hQr
    refine ⟨[(.ref sr)], rfl, ?_⟩
    have Sr : SL Z hr sr [c0, 32, 102, 97, 105, 108, 101, 100, 32, 116, 111, 32, 115, 116, 97, 114, 116] := SL.of (n := 17) rfl (by decide) Esr Csr Vsr Asr hpcr
    have Ktr : Keep hq hr [] := Kr.trans Ksr (fun x hx => Or.inr (by cases List.mem_singleton.mp hx; rw [qnr]; exact Nat.le_refl _))
    have Xr' := Ext.keep Xq' Ktr (by simp)
    have Zr' : n0 ≤ hr.size := Nat.le_trans Zq' Ktr.1
    have Swr := Swq.mono Ktr.1
    have S9 := Sq.keep Ktr (by simp)
    refine g_astore C at_274 rfl (L' := #[.val (.int p0), .val (.int p1), .val (.int p2), .val (.int (Int32.ofNat 1)), .val (.int c0), .val (.int c1), .val (.ref sq), .val (.ref sr), .unset, .unset, .unset, .unset, .unset, .unset, .unset]) rfl (q := 276) rfl ?_
    refine g_goto C at_276 (q := 416) (by decide) (by decide) ?_
    exact Go.more (k' := 14) (n' := 200) (by decide) (by decide) (tail l Z a0 G cz fm LG0 me t u o SM ST_ SU hmt hmu EM FO SO EO FP [] (by decide) (by decide) hP0 hr n0 Zr' Xr' p0 p1 p2 _ c0 c1 sq sr [c0] (by simp) S9 Sr C Swr)
  ·
    refine g_if_ne C at_24 (q' := 145) (q := 27) (by decide) (by decide) rfl (fun hy => ?_) (fun hn => absurd hn (by decide))
    refine g_iloadN C at_145 (v := (Int32.ofNat 2)) rfl (q := 146) rfl ?_
    refine g_iconst C at_146 (z := (1 : Int32)) rfl (q := 147) rfl ?_
    refine g_icmp_ne C at_147 (q' := 279) (q := 150) (by decide) (by decide) rfl (fun hy => ?_) (fun hn => absurd hn (by decide))
    refine g_new C at_279 (wd1 hw) (wd2 hw) (wd3 hw) (by decide) (by decide) (q := 282) rfl (fun sq hnq qnq Enq Anq Dnq => ?_)
    refine g_dup C at_282 rfl (q := 283) rfl ?_
    refine g_iconst C at_283 (z := (2 : Int32)) rfl (q := 284) rfl ?_
    refine g_newarray C at_284 (wd4 hw) (by decide) (cap := 2) (by decide) (by decide) (by decide) (by decide) (q := 286) rfl (fun bq hbq kbq qbq Ebq Abq => ?_)
    have Bq : Av Z hbq bq .char 2 (fun _ => .int 0) := Av.new Abq (by decide)
    have Xq := Ext.tr (Ext.tr X0 Enq) Ebq
    have gsq : n0 ≤ sq := by rw [qnq]; exact Z0
    have gbq : n0 ≤ bq := by rw [qbq]; exact Nat.le_trans Z0 Enq.1
    have Exq := Anq.ext Ebq
    have nsbq : sq ≠ bq := by rw [qbq]; exact Nat.ne_of_lt Anq.lt
    have FVq := (Dnq (Or.inr (wd17 hw)) (ty := .array .byte) (by decide)).ext Ebq
    have FCq := (Dnq (Or.inr (wd18 hw)) (ty := .byte) (by decide)).ext Ebq
    have Kq := Ext.kp (Ext.tr Enq Ebq) []
    have gzq : Z.heap.size ≤ bq := by rw [qbq]; exact Nat.le_trans X0.1 Enq.1
    have g0q : h0.size ≤ bq := by rw [qbq]; exact Enq.1
    refine g_dup C at_286 rfl (q := 287) rfl ?_
    refine g_iconst C at_287 (z := (0 : Int32)) rfl (q := 288) rfl ?_
    refine g_iload C at_288 (v := c0) rfl (q := 290) rfl ?_
    refine g_castore C at_290 (i := 0) Bq (by decide) rfl gbq (q := 291) rfl (fun hq_0 Wq_0 Bq => ?_)
    have Exq := Exq.wr Wq_0
    have FVq := FVq.other Wq_0 (Or.inl nsbq)
    have FCq := FCq.other Wq_0 (Or.inl nsbq)
    have Xq := Ext.wr Xq Wq_0 gzq
    have Kq := Kq.wr Wq_0 (Or.inr g0q)
    refine g_dup C at_291 rfl (q := 292) rfl ?_
    refine g_iconst C at_292 (z := (1 : Int32)) rfl (q := 293) rfl ?_
    refine g_iload C at_293 (v := c1) rfl (q := 295) rfl ?_
    refine g_castore C at_295 (i := 1) Bq (by decide) rfl gbq (q := 296) rfl (fun hq_1 Wq_1 Bq => ?_)
    have Exq := Exq.wr Wq_1
    have FVq := FVq.other Wq_1 (Or.inl nsbq)
    have FCq := FCq.other Wq_1 (Or.inl nsbq)
    have Xq := Ext.wr Xq Wq_1 gzq
    have Kq := Kq.wr Wq_1 (Or.inr g0q)
    have hpcq : ∀ c ∈ ([c0, c1] : List Int32), ¬ c < 0 ∧ ¬ (255 : Int32) < c := by
      intro c hc
      simp only [List.mem_cons, List.not_mem_nil, or_false] at hc
      rcases hc with rfl | rfl
      · exact hc0
      · exact hc1
    have Zcq : n0 ≤ hq_1.size := Nat.le_trans Z0 Kq.1
    refine g_callI C (W := 1) (argsL := [(.ref bq)]) (rest := [(.ref sq)]) (a := sq) at_296 rfl (wd5 hw) (wd6 hw) (wd7 hw) (by decide) (bk_str (cs := [c0, c1]) C hw (wd2 hw) gsq Zcq Exq FVq FCq Bq (fun j hj => by
          obtain rfl | rfl : j = 0 ∨ j = 1 := by omega
          all_goals simp [byte_nar hc0, byte_nar hc1]) (LG0.1.ext Xq) LG0.2.1 rfl (by decide) (by decide) hpcq (by decide) (by decide)) (by decide) (by decide) rfl (lenOf pd26 rfl) rfl rfl (q := 299) rfl (fun vq hq hQq => ?_)
    obtain ⟨rfl, Ksq, Esq, Csq, taq, kbq, -, -, -, Vsq, Asq⟩ := hQq
    refine ⟨[(.ref sq)], rfl, ?_⟩
    have Sq : SL Z hq sq [c0, c1] := SL.of (n := 2) rfl (by decide) Esq Csq Vsq Asq hpcq
    have Ktq : Keep h0 hq [] := Kq.trans Ksq (fun x hx => Or.inr (by cases List.mem_singleton.mp hx; rw [qnq]; exact Nat.le_refl _))
    have Xq' := Ext.keep X0 Ktq (by simp)
    have Zq' : n0 ≤ hq.size := Nat.le_trans Z0 Ktq.1
    have Swq := Sw.mono Ktq.1
    refine g_astore C at_299 rfl (L' := #[.val (.int p0), .val (.int p1), .val (.int p2), .val (.int (Int32.ofNat 2)), .val (.int c0), .val (.int c1), .val (.ref sq), .unset, .unset, .unset, .unset, .unset, .unset, .unset, .unset]) rfl (q := 301) rfl ?_
    refine g_new C at_301 (wd1 hw) (wd2 hw) (wd3 hw) (by decide) (by decide) (q := 304) rfl (fun sr hnr qnr Enr Anr Dnr => ?_)
    refine g_dup C at_304 rfl (q := 305) rfl ?_
    refine g_bipush C at_305 (z := (18 : Int32)) rfl (q := 307) rfl ?_
    refine g_newarray C at_307 (wd4 hw) (by decide) (cap := 18) (by decide) (by decide) (by decide) (by decide) (q := 309) rfl (fun br hbr kbr qbr Ebr Abr => ?_)
    have Br : Av Z hbr br .char 18 (fun _ => .int 0) := Av.new Abr (by decide)
    have Xr := Ext.tr (Ext.tr Xq' Enr) Ebr
    have gsr : n0 ≤ sr := by rw [qnr]; exact Zq'
    have gbr : n0 ≤ br := by rw [qbr]; exact Nat.le_trans Zq' Enr.1
    have Exr := Anr.ext Ebr
    have nsbr : sr ≠ br := by rw [qbr]; exact Nat.ne_of_lt Anr.lt
    have FVr := (Dnr (Or.inr (wd17 hw)) (ty := .array .byte) (by decide)).ext Ebr
    have FCr := (Dnr (Or.inr (wd18 hw)) (ty := .byte) (by decide)).ext Ebr
    have Kr := Ext.kp (Ext.tr Enr Ebr) []
    have gzr : Z.heap.size ≤ br := by rw [qbr]; exact Nat.le_trans Xq'.1 Enr.1
    have g0r : hq.size ≤ br := by rw [qbr]; exact Enr.1
    refine g_dup C at_309 rfl (q := 310) rfl ?_
    refine g_iconst C at_310 (z := (0 : Int32)) rfl (q := 311) rfl ?_
    refine g_iload C at_311 (v := c0) rfl (q := 313) rfl ?_
    refine g_castore C at_313 (i := 0) Br (by decide) rfl gbr (q := 314) rfl (fun hr_0 Wr_0 Br => ?_)
    have Exr := Exr.wr Wr_0
    have FVr := FVr.other Wr_0 (Or.inl nsbr)
    have FCr := FCr.other Wr_0 (Or.inl nsbr)
    have Xr := Ext.wr Xr Wr_0 gzr
    have Kr := Kr.wr Wr_0 (Or.inr g0r)
    refine g_dup C at_314 rfl (q := 315) rfl ?_
    refine g_iconst C at_315 (z := (1 : Int32)) rfl (q := 316) rfl ?_
    refine g_iload C at_316 (v := c1) rfl (q := 318) rfl ?_
    refine g_castore C at_318 (i := 1) Br (by decide) rfl gbr (q := 319) rfl (fun hr_1 Wr_1 Br => ?_)
    have Exr := Exr.wr Wr_1
    have FVr := FVr.other Wr_1 (Or.inl nsbr)
    have FCr := FCr.other Wr_1 (Or.inl nsbr)
    have Xr := Ext.wr Xr Wr_1 gzr
    have Kr := Kr.wr Wr_1 (Or.inr g0r)
    refine g_dup C at_319 rfl (q := 320) rfl ?_
    refine g_iconst C at_320 (z := (2 : Int32)) rfl (q := 321) rfl ?_
    refine g_bipush C at_321 (z := (32 : Int32)) rfl (q := 323) rfl ?_
    refine g_castore C at_323 (i := 2) Br (by decide) rfl gbr (q := 324) rfl (fun hr_2 Wr_2 Br => ?_)
    have Exr := Exr.wr Wr_2
    have FVr := FVr.other Wr_2 (Or.inl nsbr)
    have FCr := FCr.other Wr_2 (Or.inl nsbr)
    have Xr := Ext.wr Xr Wr_2 gzr
    have Kr := Kr.wr Wr_2 (Or.inr g0r)
    refine g_dup C at_324 rfl (q := 325) rfl ?_
    refine g_iconst C at_325 (z := (3 : Int32)) rfl (q := 326) rfl ?_
    refine g_bipush C at_326 (z := (102 : Int32)) rfl (q := 328) rfl ?_
    refine g_castore C at_328 (i := 3) Br (by decide) rfl gbr (q := 329) rfl (fun hr_3 Wr_3 Br => ?_)
    have Exr := Exr.wr Wr_3
    have FVr := FVr.other Wr_3 (Or.inl nsbr)
    have FCr := FCr.other Wr_3 (Or.inl nsbr)
    have Xr := Ext.wr Xr Wr_3 gzr
    have Kr := Kr.wr Wr_3 (Or.inr g0r)
    refine g_dup C at_329 rfl (q := 330) rfl ?_
    refine g_iconst C at_330 (z := (4 : Int32)) rfl (q := 331) rfl ?_
    refine g_bipush C at_331 (z := (97 : Int32)) rfl (q := 333) rfl ?_
    refine g_castore C at_333 (i := 4) Br (by decide) rfl gbr (q := 334) rfl (fun hr_4 Wr_4 Br => ?_)
    have Exr := Exr.wr Wr_4
    have FVr := FVr.other Wr_4 (Or.inl nsbr)
    have FCr := FCr.other Wr_4 (Or.inl nsbr)
    have Xr := Ext.wr Xr Wr_4 gzr
    have Kr := Kr.wr Wr_4 (Or.inr g0r)
    refine g_dup C at_334 rfl (q := 335) rfl ?_
    refine g_iconst C at_335 (z := (5 : Int32)) rfl (q := 336) rfl ?_
    refine g_bipush C at_336 (z := (105 : Int32)) rfl (q := 338) rfl ?_
    refine g_castore C at_338 (i := 5) Br (by decide) rfl gbr (q := 339) rfl (fun hr_5 Wr_5 Br => ?_)
    have Exr := Exr.wr Wr_5
    have FVr := FVr.other Wr_5 (Or.inl nsbr)
    have FCr := FCr.other Wr_5 (Or.inl nsbr)
    have Xr := Ext.wr Xr Wr_5 gzr
    have Kr := Kr.wr Wr_5 (Or.inr g0r)
    refine g_dup C at_339 rfl (q := 340) rfl ?_
    refine g_bipush C at_340 (z := (6 : Int32)) rfl (q := 342) rfl ?_
    refine g_bipush C at_342 (z := (108 : Int32)) rfl (q := 344) rfl ?_
    refine g_castore C at_344 (i := 6) Br (by decide) rfl gbr (q := 345) rfl (fun hr_6 Wr_6 Br => ?_)
    have Exr := Exr.wr Wr_6
    have FVr := FVr.other Wr_6 (Or.inl nsbr)
    have FCr := FCr.other Wr_6 (Or.inl nsbr)
    have Xr := Ext.wr Xr Wr_6 gzr
    have Kr := Kr.wr Wr_6 (Or.inr g0r)
    refine g_dup C at_345 rfl (q := 346) rfl ?_
    refine g_bipush C at_346 (z := (7 : Int32)) rfl (q := 348) rfl ?_
    refine g_bipush C at_348 (z := (101 : Int32)) rfl (q := 350) rfl ?_
    refine g_castore C at_350 (i := 7) Br (by decide) rfl gbr (q := 351) rfl (fun hr_7 Wr_7 Br => ?_)
    have Exr := Exr.wr Wr_7
    have FVr := FVr.other Wr_7 (Or.inl nsbr)
    have FCr := FCr.other Wr_7 (Or.inl nsbr)
    have Xr := Ext.wr Xr Wr_7 gzr
    have Kr := Kr.wr Wr_7 (Or.inr g0r)
    refine g_dup C at_351 rfl (q := 352) rfl ?_
    refine g_bipush C at_352 (z := (8 : Int32)) rfl (q := 354) rfl ?_
    refine g_bipush C at_354 (z := (100 : Int32)) rfl (q := 356) rfl ?_
    refine g_castore C at_356 (i := 8) Br (by decide) rfl gbr (q := 357) rfl (fun hr_8 Wr_8 Br => ?_)
    have Exr := Exr.wr Wr_8
    have FVr := FVr.other Wr_8 (Or.inl nsbr)
    have FCr := FCr.other Wr_8 (Or.inl nsbr)
    have Xr := Ext.wr Xr Wr_8 gzr
    have Kr := Kr.wr Wr_8 (Or.inr g0r)
    refine g_dup C at_357 rfl (q := 358) rfl ?_
    refine g_bipush C at_358 (z := (9 : Int32)) rfl (q := 360) rfl ?_
    refine g_bipush C at_360 (z := (32 : Int32)) rfl (q := 362) rfl ?_
    refine g_castore C at_362 (i := 9) Br (by decide) rfl gbr (q := 363) rfl (fun hr_9 Wr_9 Br => ?_)
    have Exr := Exr.wr Wr_9
    have FVr := FVr.other Wr_9 (Or.inl nsbr)
    have FCr := FCr.other Wr_9 (Or.inl nsbr)
    have Xr := Ext.wr Xr Wr_9 gzr
    have Kr := Kr.wr Wr_9 (Or.inr g0r)
    refine g_dup C at_363 rfl (q := 364) rfl ?_
    refine g_bipush C at_364 (z := (10 : Int32)) rfl (q := 366) rfl ?_
    refine g_bipush C at_366 (z := (116 : Int32)) rfl (q := 368) rfl ?_
    refine g_castore C at_368 (i := 10) Br (by decide) rfl gbr (q := 369) rfl (fun hr_10 Wr_10 Br => ?_)
    have Exr := Exr.wr Wr_10
    have FVr := FVr.other Wr_10 (Or.inl nsbr)
    have FCr := FCr.other Wr_10 (Or.inl nsbr)
    have Xr := Ext.wr Xr Wr_10 gzr
    have Kr := Kr.wr Wr_10 (Or.inr g0r)
    refine g_dup C at_369 rfl (q := 370) rfl ?_
    refine g_bipush C at_370 (z := (11 : Int32)) rfl (q := 372) rfl ?_
    refine g_bipush C at_372 (z := (111 : Int32)) rfl (q := 374) rfl ?_
    refine g_castore C at_374 (i := 11) Br (by decide) rfl gbr (q := 375) rfl (fun hr_11 Wr_11 Br => ?_)
    have Exr := Exr.wr Wr_11
    have FVr := FVr.other Wr_11 (Or.inl nsbr)
    have FCr := FCr.other Wr_11 (Or.inl nsbr)
    have Xr := Ext.wr Xr Wr_11 gzr
    have Kr := Kr.wr Wr_11 (Or.inr g0r)
    refine g_dup C at_375 rfl (q := 376) rfl ?_
    refine g_bipush C at_376 (z := (12 : Int32)) rfl (q := 378) rfl ?_
    refine g_bipush C at_378 (z := (32 : Int32)) rfl (q := 380) rfl ?_
    refine g_castore C at_380 (i := 12) Br (by decide) rfl gbr (q := 381) rfl (fun hr_12 Wr_12 Br => ?_)
    have Exr := Exr.wr Wr_12
    have FVr := FVr.other Wr_12 (Or.inl nsbr)
    have FCr := FCr.other Wr_12 (Or.inl nsbr)
    have Xr := Ext.wr Xr Wr_12 gzr
    have Kr := Kr.wr Wr_12 (Or.inr g0r)
    refine g_dup C at_381 rfl (q := 382) rfl ?_
    refine g_bipush C at_382 (z := (13 : Int32)) rfl (q := 384) rfl ?_
    refine g_bipush C at_384 (z := (115 : Int32)) rfl (q := 386) rfl ?_
    refine g_castore C at_386 (i := 13) Br (by decide) rfl gbr (q := 387) rfl (fun hr_13 Wr_13 Br => ?_)
    have Exr := Exr.wr Wr_13
    have FVr := FVr.other Wr_13 (Or.inl nsbr)
    have FCr := FCr.other Wr_13 (Or.inl nsbr)
    have Xr := Ext.wr Xr Wr_13 gzr
    have Kr := Kr.wr Wr_13 (Or.inr g0r)
    refine g_dup C at_387 rfl (q := 388) rfl ?_
    refine g_bipush C at_388 (z := (14 : Int32)) rfl (q := 390) rfl ?_
    refine g_bipush C at_390 (z := (116 : Int32)) rfl (q := 392) rfl ?_
    refine g_castore C at_392 (i := 14) Br (by decide) rfl gbr (q := 393) rfl (fun hr_14 Wr_14 Br => ?_)
    have Exr := Exr.wr Wr_14
    have FVr := FVr.other Wr_14 (Or.inl nsbr)
    have FCr := FCr.other Wr_14 (Or.inl nsbr)
    have Xr := Ext.wr Xr Wr_14 gzr
    have Kr := Kr.wr Wr_14 (Or.inr g0r)
    refine g_dup C at_393 rfl (q := 394) rfl ?_
    refine g_bipush C at_394 (z := (15 : Int32)) rfl (q := 396) rfl ?_
    refine g_bipush C at_396 (z := (97 : Int32)) rfl (q := 398) rfl ?_
    refine g_castore C at_398 (i := 15) Br (by decide) rfl gbr (q := 399) rfl (fun hr_15 Wr_15 Br => ?_)
    have Exr := Exr.wr Wr_15
    have FVr := FVr.other Wr_15 (Or.inl nsbr)
    have FCr := FCr.other Wr_15 (Or.inl nsbr)
    have Xr := Ext.wr Xr Wr_15 gzr
    have Kr := Kr.wr Wr_15 (Or.inr g0r)
    refine g_dup C at_399 rfl (q := 400) rfl ?_
    refine g_bipush C at_400 (z := (16 : Int32)) rfl (q := 402) rfl ?_
    refine g_bipush C at_402 (z := (114 : Int32)) rfl (q := 404) rfl ?_
    refine g_castore C at_404 (i := 16) Br (by decide) rfl gbr (q := 405) rfl (fun hr_16 Wr_16 Br => ?_)
    have Exr := Exr.wr Wr_16
    have FVr := FVr.other Wr_16 (Or.inl nsbr)
    have FCr := FCr.other Wr_16 (Or.inl nsbr)
    have Xr := Ext.wr Xr Wr_16 gzr
    have Kr := Kr.wr Wr_16 (Or.inr g0r)
    refine g_dup C at_405 rfl (q := 406) rfl ?_
    refine g_bipush C at_406 (z := (17 : Int32)) rfl (q := 408) rfl ?_
    refine g_bipush C at_408 (z := (116 : Int32)) rfl (q := 410) rfl ?_
    refine g_castore C at_410 (i := 17) Br (by decide) rfl gbr (q := 411) rfl (fun hr_17 Wr_17 Br => ?_)
    have Exr := Exr.wr Wr_17
    have FVr := FVr.other Wr_17 (Or.inl nsbr)
    have FCr := FCr.other Wr_17 (Or.inl nsbr)
    have Xr := Ext.wr Xr Wr_17 gzr
    have Kr := Kr.wr Wr_17 (Or.inr g0r)
    have hpcr : ∀ c ∈ ([c0, c1, 32, 102, 97, 105, 108, 101, 100, 32, 116, 111, 32, 115, 116, 97, 114, 116] : List Int32), ¬ c < 0 ∧ ¬ (255 : Int32) < c := by
      intro c hc
      simp only [List.mem_cons, List.not_mem_nil, or_false] at hc
      rcases hc with rfl | rfl | rfl | rfl | rfl | rfl | rfl | rfl | rfl | rfl | rfl | rfl | rfl | rfl | rfl | rfl | rfl | rfl
      · exact hc0
      · exact hc1
      · exact d32
      · exact d102
      · exact d97
      · exact d105
      · exact d108
      · exact d101
      · exact d100
      · exact d32
      · exact d116
      · exact d111
      · exact d32
      · exact d115
      · exact d116
      · exact d97
      · exact d114
      · exact d116
    have Zcr : n0 ≤ hr_17.size := Nat.le_trans Zq' Kr.1
    refine g_callI C (W := 1) (argsL := [(.ref br)]) (rest := [(.ref sr)]) (a := sr) at_411 rfl (wd5 hw) (wd6 hw) (wd7 hw) (by decide) (bk_str (cs := [c0, c1, 32, 102, 97, 105, 108, 101, 100, 32, 116, 111, 32, 115, 116, 97, 114, 116]) C hw (wd2 hw) gsr Zcr Exr FVr FCr Br (fun j hj => by
          obtain rfl | rfl | rfl | rfl | rfl | rfl | rfl | rfl | rfl | rfl | rfl | rfl | rfl | rfl | rfl | rfl | rfl | rfl : j = 0 ∨ j = 1 ∨ j = 2 ∨ j = 3 ∨ j = 4 ∨ j = 5 ∨ j = 6 ∨ j = 7 ∨ j = 8 ∨ j = 9 ∨ j = 10 ∨ j = 11 ∨ j = 12 ∨ j = 13 ∨ j = 14 ∨ j = 15 ∨ j = 16 ∨ j = 17 := by omega
          all_goals simp [byte_nar hc0, byte_nar hc1, byte_nar d32, byte_nar d102, byte_nar d97, byte_nar d105, byte_nar d108, byte_nar d101, byte_nar d100, byte_nar d116, byte_nar d111, byte_nar d115, byte_nar d114]) (LG0.1.ext Xr) LG0.2.1 rfl (by decide) (by decide) hpcr (by decide) (by decide)) (by decide) (by decide) rfl (lenOf pd26 rfl) rfl rfl (q := 414) rfl (fun vr hr hQr => ?_)
    obtain ⟨rfl, Ksr, Esr, Csr, tar, kbr, -, -, -, Vsr, Asr⟩ := hQr
    refine ⟨[(.ref sr)], rfl, ?_⟩
    have Sr : SL Z hr sr [c0, c1, 32, 102, 97, 105, 108, 101, 100, 32, 116, 111, 32, 115, 116, 97, 114, 116] := SL.of (n := 18) rfl (by decide) Esr Csr Vsr Asr hpcr
    have Ktr : Keep hq hr [] := Kr.trans Ksr (fun x hx => Or.inr (by cases List.mem_singleton.mp hx; rw [qnr]; exact Nat.le_refl _))
    have Xr' := Ext.keep Xq' Ktr (by simp)
    have Zr' : n0 ≤ hr.size := Nat.le_trans Zq' Ktr.1
    have Swr := Swq.mono Ktr.1
    have S9 := Sq.keep Ktr (by simp)
    refine g_astore C at_414 rfl (L' := #[.val (.int p0), .val (.int p1), .val (.int p2), .val (.int (Int32.ofNat 2)), .val (.int c0), .val (.int c1), .val (.ref sq), .val (.ref sr), .unset, .unset, .unset, .unset, .unset, .unset, .unset]) rfl (q := 416) rfl ?_
    exact Go.more (k' := 14) (n' := 200) (by decide) (by decide) (tail l Z a0 G cz fm LG0 me t u o SM ST_ SU hmt hmu EM FO SO EO FP [] (by decide) (by decide) hP0 hr n0 Zr' Xr' p0 p1 p2 _ c0 c1 sq sr [c0, c1] (by simp) S9 Sr C Swr)
theorem eq_int' {t : Term} {n : Int32} {args : Array Value} {s : State} (h : (Cond.eq t (.int n)).before args s = true) : t.eval args s none [] s = some (.int n) := by
  have h := Cond.before_iff.mp h
  simp only [Cond.value, Term.int_eval] at h
  cases e : t.eval args s none [] s with
  | none => simp [e] at h
  | some v => cases v <;> simp [e] at h ⊢; exact h
theorem field_eval {t : Term} {C f d : String} {args : Array Value} {s : State} {a : Addr} (e : t.eval args s none [] s = some (.ref a)) : (Term.field t C f d).eval args s none [] s = s.fieldOf? a C f d := by
  simp [Term.eval, e]
set_option maxRecDepth 65536 in
set_option maxHeartbeats 40000000 in
theorem comes_1 {Post : Tables → Env → Array Value → State → Outcome → State → Prop} (hpost : ∀ tb e args s v u, (limb_1_1.after args s (.returned v) u = true ∧ limb_1_2.after args s (.returned v) u = true ∧ True) → ReturnedEndW s (.returned v) u (Jvm.fieldLocs frame_1_writes args s ++ Jvm.arrayLocs frame_1_arrays args s ++ Jvm.staticLocs frame_1_statics s) 40 3456 → Post tb e args s (.returned v) u) :
    ArmFor flags0 classFile x code maxLocals ret World_1 tables_1 room_1 Calls_1 rest_1 Pre_1 Post := by
  intro l hfl _ _ p e ha hc hk s m args below hf hA hF happ hP
  obtain ⟨hcalls, hrest, hpre⟩ := hP
  obtain ⟨-, -, -, hnamed, -, -, -, hat⟩ := (Spec.applies_iff hf).mp happ
  obtain ⟨hg, hn⟩ := and_e (Cond.before_iff.mp (show (Jvm.Cond.and given_1 narrow_1).before args s = true from hpre))
  obtain ⟨hcount, hg0⟩ := and_e hg
  obtain ⟨ha0, hg1⟩ := and_e hg0
  obtain ⟨ha1, hg2⟩ := and_e hg1
  have ha2 := hg2
  obtain ⟨w0, w1, w2, rfl⟩ : ∃ w0 w1 w2 : Value, args = #[w0, w1, w2] := by
    have hs : args.size = 3 := by simpa [Cond.value, given_1] using hcount
    obtain ⟨L⟩ := args
    match L, hs with
    | [w0, w1, w2], _ => exact ⟨w0, w1, w2, rfl⟩
  have hw := fun d (hd : d ∈ tables_1) => atoms_spec (ws := Jvm.Cond.code x code maxLocals ret :: tables_1) hat d (List.mem_cons_of_mem _ hd)
  obtain ⟨hsets, hown0⟩ := atoms_of _ (rest_1_c_eq ▸ (show rest_1_c.before _ s = true from hrest))
  have hfit : Fit s := fun {y c} hc i hi => by
    obtain ⟨ha, rfl⟩ := Array.getElem?_eq_some_iff.mp hc
    have q := List.all_eq_true.mp ((Array.all_eq_true_iff_forall_mem.mp hF) _ (Array.getElem_mem ha)) i (List.mem_range.mpr hi)
    simpa [Array.getElem?_eq_getElem hi] using q
  obtain ⟨x0, ea0⟩ := is_v ha0
  obtain rfl : w0 = (.int x0) := Option.some.inj ea0
  obtain ⟨x1, ea1⟩ := is_v ha1
  obtain rfl : w1 = (.int x1) := Option.some.inj ea1
  obtain ⟨x2, ea2⟩ := is_v ha2
  obtain rfl : w2 = (.int x2) := Option.some.inj ea2
  have n5' := hsets _ (List.mem_of_getElem? (i := 2) rfl)
  have n5 := not_v (Cond.before_iff.mp n5')
  obtain ⟨cz, e10⟩ := is_v (Cond.before_iff.mp (hsets _ (List.mem_of_getElem? (i := 1) rfl)))
  have S0 : Sta s s.heap "java/lang/String" "COMPACT_STRINGS" "Z" (.int cz) := Sta.start e10 (Or.inl (hsets _ (List.mem_of_getElem? (i := 0) rfl)))
  have hcz : ¬ (cz = (0 : Int32)) := gotF (Cond.eq_ints e10 (Term.int_eval (0))) n5
  obtain ⟨fm, e11, hfm⟩ := isR_v (Cond.before_iff.mp (hsets _ (List.mem_of_getElem? (i := 8) rfl)))
  have S1 : Sta s s.heap "jdk/internal/util/Preconditions" "SIOOBE_FORMATTER" "Ljava/util/function/BiFunction;" fm := Sta.start e11 (Or.inl (hsets _ (List.mem_of_getElem? (i := 7) rfl)))
  have hk7 : Jvm.Lit.constHeld s "java/lang/String" 7 := hcalls.1 ("java/lang/String", 7) (by simp [consts_1])
  have hk61 := hcalls.1 ("com/example/notice_to_drain/noticetodrain/drain/HookOutcome", 63) (by simp [consts_1])
  have hk85 := hcalls.1 ("com/example/notice_to_drain/noticetodrain/drain/HookOutcome", 85) (by simp [consts_1])
  have o1 := hsets _ (List.mem_of_getElem? (i := 11) rfl)
  obtain ⟨o, -, -, -, eo, -⟩ := Cond.exactly_spec o1
  have SO := Sta.start eo (Or.inl (hsets _ (List.mem_of_getElem? (i := 10) rfl)))
  have EO := Exa.start eo (Cond.before_iff.mp o1)
  have e12 := eq_int' (hsets _ (List.mem_of_getElem? (i := 12) rfl))
  rw [field_eval eo] at e12
  have FP := Fld.start e12
  obtain ⟨g1, hn2⟩ := and_e hn
  obtain ⟨g2, hn3⟩ := and_e hn2
  obtain ⟨g3, hn4⟩ := and_e hn3
  obtain ⟨g4, hn5⟩ := and_e hn4
  obtain ⟨g5, g6⟩ := and_e hn5
  obtain ⟨me, -, -, -, em, -⟩ := Cond.exactly_spec (Cond.before_iff.mpr g1)
  obtain ⟨t, -, -, -, et, -⟩ := Cond.exactly_spec (Cond.before_iff.mpr g2)
  obtain ⟨u, -, -, -, eu, -⟩ := Cond.exactly_spec (Cond.before_iff.mpr g5)
  have SM := Sta.start em (Or.inr ⟨(wd41 hw), (wd42 hw)⟩)
  have ST_ := Sta.start et (Or.inr ⟨(wd41 hw), (wd91 hw)⟩)
  have SU := Sta.start eu (Or.inr ⟨(wd41 hw), (wd98 hw)⟩)
  have EM := Exa.start em g1
  have e3 := eq_int' (Cond.before_iff.mpr g3)
  have e4 := eq_int' (Cond.before_iff.mpr g4)
  have e6 := eq_int' (Cond.before_iff.mpr g6)
  rw [field_eval em] at e3
  rw [field_eval et] at e4
  rw [field_eval eu] at e6
  have FO := Fld.start e3
  have hmt : ¬ me = t := fun q => by
    subst q
    rw [e3] at e4
    cases e4
  have hmu : ¬ me = u := fun q => by
    subst q
    rw [e3] at e6
    cases e6
  obtain ⟨n, o, h1, h2, h3, _, L, rfl, ⟨rfl, N⟩, hq⟩ := c_law l s _ ⟨hw, hk7, n5', hk61, hk85⟩ cz fm ⟨S0, hcz, S1, hfm⟩ me t u o SM ST_ SU hmt hmu EM FO SO EO FP x0 x1 x2 s.heap s.heap.size (Nat.le_refl _) (Ext.rfl' _) p e ha hc hk s m _ below hf (app_less hf ((Spec.applies_iff_loose hf).mp happ).1) ⟨rfl, State.Warmed39.refl s, rfl, IB.start⟩ trivial
  refine ⟨n, _, h1, h2, h3, hpost _ _ _ _ _ _ ⟨Cond.after_iff.mpr rfl, Cond.after_iff.mpr (eq_i res_at (Term.int_eval (1)) rfl), trivial⟩ ⟨hq.1, hq.2.1, hq.2.2.1, (hq.2.2.2.sift fun y hy => Or.inr (N y hy)).mono (by decide) (by decide)⟩⟩
theorem main_1_1 : Claimed_1_1 := comes_1 fun _ _ _ _ _ _ h hF => ⟨h.1, hF⟩
theorem main_1_2 : Claimed_1_2 := comes_1 fun _ _ _ _ _ _ h hF => ⟨h.2.1, hF⟩
end Jvm.Pilot.@@N@@
namespace Jvm.Pilot.@@N@@
open Jvm Jvm.ClassFile Sem Op Lib Jvm.Free Jvm.Stand Jvm.Pilot.@@N@@.Jvm.D
/-! MADE BY PROGRAM (witnessworld.py) out of the Statement's table words and the real class files: 29 classes; the members and pool entries that the words name. The judged class is class 1, her method 1. -/
namespace start1
open Jvm.ClassFile
def u (s : String) : CpInfo := .utf8 (stringToUtf16 s)
/-- a pool by its gaps: so many unusable entries, then the entry; so many at the end -/
def gap : Nat → List CpInfo → List CpInfo
  | 0, r => r
  | n + 1, r => .unusable :: gap n r
def poolList (es : List (Nat × CpInfo)) (last : Nat) : List CpInfo := es.foldr (fun e r => gap e.1 (e.2 :: r)) (gap last [])
def pool (es : List (Nat × CpInfo)) (last : Nat) : Array CpInfo := ⟨poolList es last⟩
def fileOf (pool : Array CpInfo) (this : Nat) (attrs : Array Attribute := #[]) (ms : Array MethodInfo := #[]) (fl : Nat := 33) (sup : Nat := 0) (ifs : Array Nat := #[]) (fds : Array FieldInfo := #[]) : ClassFile where
  minorVersion := 0
  majorVersion := 65
  constantPool := pool
  accessFlags := fl
  thisClass := this
  superClass := sup
  interfaces := ifs
  fields := fds
  methods := ms
  attributes := attrs
def plain (name : String) (sup : Option ClassId) : Class where
  name := name
  kind := .ordinary
  loader := none
  accessFlags := 33
  super := sup
  interfaces := #[]
  cf := none
  fields := #[]
  methods := #[]
  instanceTypes := #[]
  staticTypes := #[]
  resolved := #[]
  callSites := []
  init := .initialized
  statics := none
  mirror := none

def pool0 : Array CpInfo := pool [(5, u "<init>"), (0, u "()V"), (1, .class_ 10), (1, u "java/lang/Object"), (85, u "clone"), (0, u "()Ljava/lang/Object;")] 26

def k0c0 : Code := { maxStack := 0, maxLocals := 1, code := object_method_1_code, exceptionTable := #[], attributes := #[] }
def k0m0 : Method := { name := "<init>", desc := "()V", sig := { parameters := [], returnType := none }, accessFlags := 1, code := some k0c0 }
def k0m1 : Method := { name := "clone", desc := "()Ljava/lang/Object;", sig := { parameters := [], returnType := some (.object "java/lang/Object") }, accessFlags := 260, code := none }
/-- java/lang/Object -/
def k0 : Class := { plain "java/lang/Object" none with
  accessFlags := 33
  interfaces := #[]
  cf := some (fileOf pool0 8 #[] #[{ accessFlags := 1, nameIndex := 5, descriptorIndex := 6, attributes := #[] }, { accessFlags := 260, nameIndex := 96, descriptorIndex := 97, attributes := #[] }] 33 0 #[] #[])
  fields := #[]
  methods := #[k0m0, k0m1]
  instanceTypes := #[]
  staticTypes := #[]
  resolved := Array.replicate 124 none
  statics := none }

def pool1 : Array CpInfo := pool [(2, .class_ 4), (1, u "java/lang/Object"), (0, u "<init>"), (0, u "()V"), (0, .integer 2147483647), (0, .class_ 9), (0, u "java/lang/String"), (0, .methodref 8 11), (0, .nameAndType 5 12), (0, u "([C)V"), (0, .methodref 14 15), (0, .class_ 16), (0, .nameAndType 17 18), (0, u "com/example/notice_to_drain/noticetodrain/drain/HookOutcome"), (0, u "unstarted"), (0, u "(Ljava/lang/String;)Lcom/example/notice_to_drain/noticetodrain/drain/HookOutcome;"), (0, .methodref 14 20), (0, .nameAndType 21 22), (0, u "hook"), (0, u "()Ljava/lang/String;"), (0, .methodref 8 24), (0, .nameAndType 25 26), (0, u "equals"), (0, u "(Ljava/lang/Object;)Z"), (0, .methodref 14 28), (0, .nameAndType 29 30), (0, u "exitStatus"), (0, u "()Ljava/util/OptionalInt;"), (0, .methodref 32 33), (0, .class_ 34), (0, .nameAndType 35 36), (0, u "java/util/OptionalInt"), (0, u "isPresent"), (0, u "()Z"), (0, .methodref 14 38), (0, .nameAndType 39 36), (0, u "ok"), (0, .methodref 14 41), (0, .nameAndType 42 36), (0, u "timedOut"), (0, .methodref 14 44), (0, .nameAndType 45 36), (0, u "exitUnknown"), (0, .methodref 14 47), (0, .nameAndType 48 22), (0, u "toString"), (0, .class_ 50), (0, u "com/example/notice_to_drain/noticetodrain/drain/HookOutcomeUnstartedPinLaw"), (2, u "law"), (0, u "(III)Z")] 3

def k1m0 : Method := { name := "<init>", desc := "()V", sig := { parameters := [], returnType := none }, accessFlags := 1, code := none }
def k1c1 : Code := { maxStack := 6, maxLocals := 15, code := code, exceptionTable := #[], attributes := #[] }
def k1m1 : Method := { name := "law", desc := "(III)Z", sig := { parameters := [.int, .int, .int], returnType := some .boolean }, accessFlags := 9, code := some k1c1 }
/-- com/example/notice_to_drain/noticetodrain/drain/HookOutcomeUnstartedPinLaw -/
def k1 : Class := { plain "com/example/notice_to_drain/noticetodrain/drain/HookOutcomeUnstartedPinLaw" (some 0) with
  accessFlags := 49
  interfaces := #[]
  cf := some (fileOf pool1 49 #[] #[{ accessFlags := 1, nameIndex := 5, descriptorIndex := 6, attributes := #[] }, { accessFlags := 9, nameIndex := 53, descriptorIndex := 54, attributes := #[] }] 49 2 #[] #[])
  fields := #[]
  methods := #[k1m0, k1m1]
  instanceTypes := #[]
  staticTypes := #[]
  resolved := Array.replicate 58 none
  statics := none }

def pool2 : Array CpInfo := pool [(1, .class_ 2), (0, u "java/io/Serializable"), (0, .class_ 4), (0, u "java/lang/Object")] 2

/-- java/io/Serializable -/
def k2 : Class := { plain "java/io/Serializable" (some 0) with
  accessFlags := 1537
  interfaces := #[]
  cf := some (fileOf pool2 1 #[] #[] 1537 3 #[] #[])
  fields := #[]
  methods := #[]
  instanceTypes := #[]
  staticTypes := #[]
  resolved := Array.replicate 7 none
  statics := none }

def pool3 : Array CpInfo := pool [(1, .class_ 2), (0, u "java/lang/Comparable"), (0, .class_ 4), (0, u "java/lang/Object")] 7

/-- java/lang/Comparable -/
def k3 : Class := { plain "java/lang/Comparable" (some 0) with
  accessFlags := 1537
  interfaces := #[]
  cf := some (fileOf pool3 1 #[] #[] 1537 3 #[] #[])
  fields := #[]
  methods := #[]
  instanceTypes := #[]
  staticTypes := #[]
  resolved := Array.replicate 12 none
  statics := none }

def pool4 : Array CpInfo := pool [(2, .class_ 4), (1, u "java/lang/CharSequence"), (42, .class_ 48), (0, u "java/lang/CharSequence$1CodePointIterator"), (10, .class_ 60), (0, u "java/lang/CharSequence$1CharIterator"), (5, .class_ 67), (0, u "java/lang/Object")] 63

/-- java/lang/CharSequence -/
def k4 : Class := { plain "java/lang/CharSequence" (some 0) with
  accessFlags := 1537
  interfaces := #[]
  cf := some (fileOf pool4 2 #[.nestMembers #[47, 59]] #[] 1537 66 #[] #[])
  fields := #[]
  methods := #[]
  instanceTypes := #[]
  staticTypes := #[]
  resolved := Array.replicate 131 none
  statics := none }

def pool5 : Array CpInfo := pool [(1, .class_ 2), (0, u "java/lang/constant/Constable"), (0, .class_ 4), (0, u "java/lang/Object")] 6

/-- java/lang/constant/Constable -/
def k5 : Class := { plain "java/lang/constant/Constable" (some 0) with
  accessFlags := 1537
  interfaces := #[]
  cf := some (fileOf pool5 1 #[] #[] 1537 3 #[] #[])
  fields := #[]
  methods := #[]
  instanceTypes := #[]
  staticTypes := #[]
  resolved := Array.replicate 11 none
  statics := none }

def pool6 : Array CpInfo := pool [(1, .class_ 2), (0, u "java/lang/constant/ConstantDesc"), (0, .class_ 4), (0, u "java/lang/Object")] 32

/-- java/lang/constant/ConstantDesc -/
def k6 : Class := { plain "java/lang/constant/ConstantDesc" (some 0) with
  accessFlags := 1537
  interfaces := #[]
  cf := some (fileOf pool6 1 #[] #[] 1537 3 #[] #[])
  fields := #[]
  methods := #[]
  instanceTypes := #[]
  staticTypes := #[]
  resolved := Array.replicate 37 none
  statics := none }

def pool7 : Array CpInfo := pool [(1, .methodref 2 3), (0, .class_ 4), (0, .nameAndType 5 6), (0, u "java/lang/Object"), (0, u "<init>"), (0, u "()V"), (0, .string 8), (0, u ""), (0, .fieldref 10 11), (0, .class_ 12), (0, .nameAndType 13 14), (0, u "java/lang/String"), (0, u "value"), (0, u "[B"), (0, .fieldref 10 16), (0, .nameAndType 17 18), (0, u "coder"), (0, u "B"), (2, u "hash"), (0, u "I"), (2, u "hashIsZero"), (0, u "Z"), (0, .methodref 10 28), (0, .nameAndType 5 29), (0, u "([CIILjava/lang/Void;)V"), (8, .fieldref 10 39), (0, .nameAndType 40 26), (0, u "COMPACT_STRINGS"), (1, .class_ 44), (1, u "java/lang/StringUTF16"), (0, u "compress"), (1, .methodref 42 48), (0, .nameAndType 49 50), (0, u "coderFromArrayLen"), (0, u "([BI)B"), (3, .methodref 55 56), (0, .class_ 57), (0, .nameAndType 58 59), (0, u "java/util/Arrays"), (0, u "copyOfRange"), (0, u "([BII)[B"), (47, .class_ 109), (1, u "java/lang/StringLatin1"), (32, u "()Z"), (34, .methodref 42 178), (0, .nameAndType 45 179), (0, u "([CII)[B"), (13, .class_ 195), (1, u "java/lang/System"), (16, .methodref 193 213), (0, .nameAndType 214 215), (0, u "arraycopy"), (0, u "(Ljava/lang/Object;ILjava/lang/Object;II)V"), (118, u "()I"), (0, .methodref 10 336), (0, .nameAndType 17 337), (0, u "()B"), (2, u "()[B"), (148, .methodref 10 490), (0, .nameAndType 5 491), (0, u "(Ljava/lang/AbstractStringBuilder;Ljava/lang/Void;)V"), (1, .nameAndType 494 142), (0, u "isLatin1"), (11, .nameAndType 507 334), (0, u "length"), (24, u "getBytes"), (8, .methodref 107 542), (0, .nameAndType 543 544), (0, u "equals"), (0, u "([B[B)Z"), (4, .methodref 550 506), (0, .class_ 551), (0, u "java/lang/AbstractStringBuilder"), (0, .methodref 550 553), (0, .nameAndType 554 340), (0, u "getValue"), (18, u "(Ljava/lang/Object;)Z"), (1, .class_ 576), (0, u "java/lang/CharSequence"), (22, u "CASE_INSENSITIVE_ORDER"), (0, u "Ljava/util/Comparator;"), (220, u "([BIB)V"), (188, u "([C)V"), (36, .methodref 550 493), (53, u "serialPersistentFields"), (0, u "[Ljava/io/ObjectStreamField;"), (0, .class_ 1104), (0, u "java/lang/String$CaseInsensitiveComparator"), (1, .class_ 1107), (0, u "java/io/Serializable"), (0, .class_ 1109), (0, u "java/lang/Comparable"), (0, .class_ 1111), (0, u "java/lang/constant/Constable"), (0, .class_ 1113), (0, u "java/lang/constant/ConstantDesc"), (2, u "serialVersionUID"), (0, u "J"), (3, u "REPL"), (0, u "C"), (2, u "LATIN1"), (1, u "UTF16"), (105, u "(Ljava/lang/StringBuilder;)V")] 217

def k7m0 : Method := { name := "<init>", desc := "()V", sig := { parameters := [], returnType := none }, accessFlags := 1, code := none }
def k7c1 : Code := { maxStack := 5, maxLocals := 2, code := jdk_42_method_3_code, exceptionTable := #[], attributes := #[] }
def k7m1 : Method := { name := "<init>", desc := "([C)V", sig := { parameters := [(.array .char)], returnType := none }, accessFlags := 1, code := some k7c1 }
def k7c2 : Code := { maxStack := 3, maxLocals := 2, code := jdk_42_method_53_code, exceptionTable := #[], attributes := #[] }
def k7m2 : Method := { name := "<init>", desc := "(Ljava/lang/StringBuilder;)V", sig := { parameters := [(.object "java/lang/StringBuilder")], returnType := none }, accessFlags := 1, code := some k7c2 }
def k7c3 : Code := { maxStack := 2, maxLocals := 1, code := jdk_42_method_54_code, exceptionTable := #[], attributes := #[] }
def k7m3 : Method := { name := "length", desc := "()I", sig := { parameters := [], returnType := some .int }, accessFlags := 1, code := some k7c3 }
def k7c4 : Code := { maxStack := 2, maxLocals := 3, code := jdk_42_method_66_code, exceptionTable := #[], attributes := #[] }
def k7m4 : Method := { name := "equals", desc := "(Ljava/lang/Object;)Z", sig := { parameters := [(.object "java/lang/Object")], returnType := some .boolean }, accessFlags := 1, code := some k7c4 }
def k7c5 : Code := { maxStack := 5, maxLocals := 4, code := jdk_42_method_147_code, exceptionTable := #[], attributes := #[] }
def k7m5 : Method := { name := "getBytes", desc := "([BIB)V", sig := { parameters := [(.array .byte), .int, .byte], returnType := none }, accessFlags := 0, code := some k7c5 }
def k7c6 : Code := { maxStack := 4, maxLocals := 6, code := jdk_42_method_149_code, exceptionTable := #[], attributes := #[] }
def k7m6 : Method := { name := "<init>", desc := "([CIILjava/lang/Void;)V", sig := { parameters := [(.array .char), .int, .int, (.object "java/lang/Void")], returnType := none }, accessFlags := 2, code := some k7c6 }
def k7c7 : Code := { maxStack := 5, maxLocals := 5, code := jdk_42_method_150_code, exceptionTable := #[], attributes := #[] }
def k7m7 : Method := { name := "<init>", desc := "(Ljava/lang/AbstractStringBuilder;Ljava/lang/Void;)V", sig := { parameters := [(.object "java/lang/AbstractStringBuilder"), (.object "java/lang/Void")], returnType := none }, accessFlags := 0, code := some k7c7 }
def k7c8 : Code := { maxStack := 1, maxLocals := 1, code := jdk_42_method_152_code, exceptionTable := #[], attributes := #[] }
def k7m8 : Method := { name := "coder", desc := "()B", sig := { parameters := [], returnType := some .byte }, accessFlags := 0, code := some k7c8 }
/-- java/lang/String -/
def k7 : Class := { plain "java/lang/String" (some 0) with
  accessFlags := 49
  interfaces := #[2, 3, 4, 5, 6]
  cf := some (fileOf pool7 10 #[.nestMembers #[1103]] #[{ accessFlags := 1, nameIndex := 5, descriptorIndex := 6, attributes := #[] }, { accessFlags := 1, nameIndex := 5, descriptorIndex := 1010, attributes := #[] }, { accessFlags := 1, nameIndex := 5, descriptorIndex := 1233, attributes := #[] }, { accessFlags := 1, nameIndex := 507, descriptorIndex := 334, attributes := #[] }, { accessFlags := 1, nameIndex := 543, descriptorIndex := 573, attributes := #[] }, { accessFlags := 0, nameIndex := 532, descriptorIndex := 821, attributes := #[] }, { accessFlags := 2, nameIndex := 5, descriptorIndex := 29, attributes := #[] }, { accessFlags := 0, nameIndex := 5, descriptorIndex := 491, attributes := #[] }, { accessFlags := 0, nameIndex := 17, descriptorIndex := 337, attributes := #[] }] 49 2 #[1106, 1108, 575, 1110, 1112] #[{ accessFlags := 18, nameIndex := 13, descriptorIndex := 14, attributes := #[] }, { accessFlags := 18, nameIndex := 17, descriptorIndex := 18, attributes := #[] }, { accessFlags := 2, nameIndex := 21, descriptorIndex := 22, attributes := #[] }, { accessFlags := 2, nameIndex := 25, descriptorIndex := 26, attributes := #[] }, { accessFlags := 26, nameIndex := 1116, descriptorIndex := 1117, attributes := #[] }, { accessFlags := 24, nameIndex := 40, descriptorIndex := 26, attributes := #[] }, { accessFlags := 26, nameIndex := 1101, descriptorIndex := 1102, attributes := #[] }, { accessFlags := 26, nameIndex := 1121, descriptorIndex := 1122, attributes := #[] }, { accessFlags := 25, nameIndex := 599, descriptorIndex := 600, attributes := #[] }, { accessFlags := 24, nameIndex := 1125, descriptorIndex := 18, attributes := #[] }, { accessFlags := 24, nameIndex := 1127, descriptorIndex := 18, attributes := #[] }])
  fields := #[{ name := "value", type := (.array .byte), accessFlags := 18, slot := 0, constantValue := 0 }, { name := "coder", type := .byte, accessFlags := 18, slot := 1, constantValue := 0 }, { name := "hash", type := .int, accessFlags := 2, slot := 2, constantValue := 0 }, { name := "hashIsZero", type := .boolean, accessFlags := 2, slot := 3, constantValue := 0 }, { name := "serialVersionUID", type := .long, accessFlags := 26, slot := 0, constantValue := 0 }, { name := "COMPACT_STRINGS", type := .boolean, accessFlags := 24, slot := 1, constantValue := 0 }, { name := "serialPersistentFields", type := (.array (.object "java/io/ObjectStreamField")), accessFlags := 26, slot := 2, constantValue := 0 }, { name := "REPL", type := .char, accessFlags := 26, slot := 3, constantValue := 0 }, { name := "CASE_INSENSITIVE_ORDER", type := (.object "java/util/Comparator"), accessFlags := 25, slot := 4, constantValue := 0 }, { name := "LATIN1", type := .byte, accessFlags := 24, slot := 5, constantValue := 0 }, { name := "UTF16", type := .byte, accessFlags := 24, slot := 6, constantValue := 0 }]
  methods := #[k7m0, k7m1, k7m2, k7m3, k7m4, k7m5, k7m6, k7m7, k7m8]
  instanceTypes := #[(.array .byte), .byte, .int, .boolean]
  staticTypes := #[.long, .boolean, (.array (.object "java/io/ObjectStreamField")), .char, (.object "java/util/Comparator"), .byte, .byte]
  resolved := Array.replicate 1451 none
  statics := some 0 }

def pool8 : Array CpInfo := pool [(6, .class_ 8), (1, u "java/lang/Object"), (0, u "<init>"), (0, u "()V"), (1, .class_ 14), (1, u "java/lang/StringUTF16"), (31, u "$assertionsDisabled"), (0, u "Z"), (13, u "HI_BYTE_SHIFT"), (0, u "I"), (2, u "LO_BYTE_SHIFT"), (49, .methodref 12 116), (0, .nameAndType 117 118), (0, u "compress"), (0, u "([CI[BII)I"), (3, u "([CII)[B"), (138, u "coderFromArrayLen"), (0, u "([BI)B"), (106, .class_ 371), (1, u "java/lang/StringUTF16$LinesSpliterator"), (58, u "MAX_LENGTH"), (196, .class_ 628), (0, u "java/lang/StringUTF16$CodePointsSpliterator"), (0, .class_ 630), (0, u "java/lang/StringUTF16$CharsSpliterator")] 4

def k8m0 : Method := { name := "<init>", desc := "()V", sig := { parameters := [], returnType := none }, accessFlags := 0, code := none }
def k8c1 : Code := { maxStack := 2, maxLocals := 2, code := jdk_52_method_15_code, exceptionTable := #[], attributes := #[] }
def k8m1 : Method := { name := "coderFromArrayLen", desc := "([BI)B", sig := { parameters := [(.array .byte), .int], returnType := some .byte }, accessFlags := 8, code := some k8c1 }
def k8c2 : Code := { maxStack := 5, maxLocals := 6, code := jdk_52_method_16_code, exceptionTable := #[], attributes := #[] }
def k8m2 : Method := { name := "compress", desc := "([CII)[B", sig := { parameters := [(.array .char), .int, .int], returnType := some (.array .byte) }, accessFlags := 9, code := some k8c2 }
def k8c3 : Code := { maxStack := 3, maxLocals := 7, code := jdk_52_method_21_code, exceptionTable := #[], attributes := #[] }
def k8m3 : Method := { name := "compress", desc := "([CI[BII)I", sig := { parameters := [(.array .char), .int, (.array .byte), .int, .int], returnType := some .int }, accessFlags := 9, code := some k8c3 }
/-- java/lang/StringUTF16 -/
def k8 : Class := { plain "java/lang/StringUTF16" (some 0) with
  accessFlags := 48
  interfaces := #[]
  cf := some (fileOf pool8 12 #[.nestMembers #[627, 629, 369]] #[{ accessFlags := 0, nameIndex := 9, descriptorIndex := 10, attributes := #[] }, { accessFlags := 8, nameIndex := 261, descriptorIndex := 262, attributes := #[] }, { accessFlags := 9, nameIndex := 117, descriptorIndex := 122, attributes := #[] }, { accessFlags := 9, nameIndex := 117, descriptorIndex := 118, attributes := #[] }] 48 6 #[] #[{ accessFlags := 26, nameIndex := 61, descriptorIndex := 62, attributes := #[] }, { accessFlags := 26, nameIndex := 65, descriptorIndex := 62, attributes := #[] }, { accessFlags := 24, nameIndex := 430, descriptorIndex := 62, attributes := #[] }, { accessFlags := 4120, nameIndex := 46, descriptorIndex := 47, attributes := #[] }])
  fields := #[{ name := "HI_BYTE_SHIFT", type := .int, accessFlags := 26, slot := 0, constantValue := 0 }, { name := "LO_BYTE_SHIFT", type := .int, accessFlags := 26, slot := 1, constantValue := 0 }, { name := "MAX_LENGTH", type := .int, accessFlags := 24, slot := 2, constantValue := 0 }, { name := "$assertionsDisabled", type := .boolean, accessFlags := 4120, slot := 3, constantValue := 0 }]
  methods := #[k8m0, k8m1, k8m2, k8m3]
  instanceTypes := #[]
  staticTypes := #[.int, .int, .int, .boolean]
  resolved := Array.replicate 635 none
  statics := none }

def pool9 : Array CpInfo := pool [(1, .methodref 2 3), (0, .class_ 4), (0, .nameAndType 5 6), (0, u "java/lang/Object"), (0, u "<init>"), (0, u "()V"), (0, .fieldref 8 9), (0, .class_ 10), (0, .nameAndType 11 12), (0, u "com/example/notice_to_drain/noticetodrain/drain/HookOutcome"), (0, u "hook"), (0, u "Ljava/lang/String;"), (0, .fieldref 8 14), (0, .nameAndType 15 16), (0, u "ending"), (0, u "Lcom/example/notice_to_drain/noticetodrain/drain/HookOutcome$Ending;"), (0, .fieldref 8 18), (0, .nameAndType 19 20), (0, u "exitStatus"), (0, u "Ljava/lang/Integer;"), (1, .class_ 24), (1, u "com/example/notice_to_drain/noticetodrain/drain/HookOutcome$Ending"), (7, .methodref 8 33), (0, .nameAndType 5 34), (0, u "(Ljava/lang/String;Lcom/example/notice_to_drain/noticetodrain/drain/HookOutcome$Ending;Ljava/lang/Integer;)V"), (0, .fieldref 22 36), (0, .nameAndType 37 16), (0, u "UNSTARTED"), (0, .fieldref 22 39), (0, .nameAndType 40 16), (0, u "TIMED_OUT"), (0, .fieldref 22 42), (0, .nameAndType 43 16), (0, u "UNKNOWN"), (0, .methodref 45 46), (0, .class_ 47), (0, .nameAndType 48 49), (0, u "java/util/OptionalInt"), (0, u "empty"), (0, u "()Ljava/util/OptionalInt;"), (3, u "()I"), (4, .methodref 22 59), (0, .nameAndType 60 53), (0, u "ordinal"), (2, .string 64), (0, u "failed to start"), (3, u "ok"), (0, .class_ 70), (0, u "java/lang/StringBuilder"), (0, .methodref 69 3), (2, .methodref 69 75), (0, .nameAndType 76 77), (0, u "append"), (0, u "(Ljava/lang/String;)Ljava/lang/StringBuilder;"), (3, .methodref 69 82), (0, .nameAndType 83 84), (0, u "toString"), (0, u "()Ljava/lang/String;"), (0, .string 86), (0, u " "), (4, u "unstarted"), (0, u "(Ljava/lang/String;)Lcom/example/notice_to_drain/noticetodrain/drain/HookOutcome;"), (0, u "timedOut"), (2, u "()Z"), (0, u "exitUnknown")] 7

def k9c0 : Code := { maxStack := 2, maxLocals := 4, code := prog_5_method_1_code, exceptionTable := #[], attributes := #[] }
def k9m0 : Method := { name := "<init>", desc := "(Ljava/lang/String;Lcom/example/notice_to_drain/noticetodrain/drain/HookOutcome$Ending;Ljava/lang/Integer;)V", sig := { parameters := [(.object "java/lang/String"), (.object "com/example/notice_to_drain/noticetodrain/drain/HookOutcome$Ending"), (.object "java/lang/Integer")], returnType := none }, accessFlags := 2, code := some k9c0 }
def k9c1 : Code := { maxStack := 5, maxLocals := 1, code := prog_5_method_3_code, exceptionTable := #[], attributes := #[] }
def k9m1 : Method := { name := "unstarted", desc := "(Ljava/lang/String;)Lcom/example/notice_to_drain/noticetodrain/drain/HookOutcome;", sig := { parameters := [(.object "java/lang/String")], returnType := some (.object "com/example/notice_to_drain/noticetodrain/drain/HookOutcome") }, accessFlags := 9, code := some k9c1 }
def k9c2 : Code := { maxStack := 1, maxLocals := 1, code := prog_5_method_6_code, exceptionTable := #[], attributes := #[] }
def k9m2 : Method := { name := "hook", desc := "()Ljava/lang/String;", sig := { parameters := [], returnType := some (.object "java/lang/String") }, accessFlags := 1, code := some k9c2 }
def k9c3 : Code := { maxStack := 1, maxLocals := 1, code := prog_5_method_7_code, exceptionTable := #[], attributes := #[] }
def k9m3 : Method := { name := "exitStatus", desc := "()Ljava/util/OptionalInt;", sig := { parameters := [], returnType := some (.object "java/util/OptionalInt") }, accessFlags := 1, code := some k9c3 }
def k9c4 : Code := { maxStack := 1, maxLocals := 1, code := prog_5_method_8_code, exceptionTable := #[], attributes := #[] }
def k9m4 : Method := { name := "ok", desc := "()Z", sig := { parameters := [], returnType := some .boolean }, accessFlags := 1, code := some k9c4 }
def k9c5 : Code := { maxStack := 2, maxLocals := 1, code := prog_5_method_9_code, exceptionTable := #[], attributes := #[] }
def k9m5 : Method := { name := "timedOut", desc := "()Z", sig := { parameters := [], returnType := some .boolean }, accessFlags := 1, code := some k9c5 }
def k9c6 : Code := { maxStack := 2, maxLocals := 1, code := prog_5_method_10_code, exceptionTable := #[], attributes := #[] }
def k9m6 : Method := { name := "exitUnknown", desc := "()Z", sig := { parameters := [], returnType := some .boolean }, accessFlags := 1, code := some k9c6 }
def k9c7 : Code := { maxStack := 2, maxLocals := 2, code := prog_5_method_11_code, exceptionTable := #[], attributes := #[] }
def k9m7 : Method := { name := "toString", desc := "()Ljava/lang/String;", sig := { parameters := [], returnType := some (.object "java/lang/String") }, accessFlags := 1, code := some k9c7 }
/-- com/example/notice_to_drain/noticetodrain/drain/HookOutcome -/
def k9 : Class := { plain "com/example/notice_to_drain/noticetodrain/drain/HookOutcome" (some 0) with
  accessFlags := 49
  interfaces := #[]
  cf := some (fileOf pool9 8 #[.nestMembers #[22]] #[{ accessFlags := 2, nameIndex := 5, descriptorIndex := 34, attributes := #[] }, { accessFlags := 9, nameIndex := 91, descriptorIndex := 92, attributes := #[] }, { accessFlags := 1, nameIndex := 11, descriptorIndex := 84, attributes := #[] }, { accessFlags := 1, nameIndex := 19, descriptorIndex := 49, attributes := #[] }, { accessFlags := 1, nameIndex := 68, descriptorIndex := 96, attributes := #[] }, { accessFlags := 1, nameIndex := 93, descriptorIndex := 96, attributes := #[] }, { accessFlags := 1, nameIndex := 97, descriptorIndex := 96, attributes := #[] }, { accessFlags := 1, nameIndex := 83, descriptorIndex := 84, attributes := #[] }] 49 2 #[] #[{ accessFlags := 18, nameIndex := 11, descriptorIndex := 12, attributes := #[] }, { accessFlags := 18, nameIndex := 15, descriptorIndex := 16, attributes := #[] }, { accessFlags := 18, nameIndex := 19, descriptorIndex := 20, attributes := #[] }])
  fields := #[{ name := "hook", type := (.object "java/lang/String"), accessFlags := 18, slot := 0, constantValue := 0 }, { name := "ending", type := (.object "com/example/notice_to_drain/noticetodrain/drain/HookOutcome$Ending"), accessFlags := 18, slot := 1, constantValue := 0 }, { name := "exitStatus", type := (.object "java/lang/Integer"), accessFlags := 18, slot := 2, constantValue := 0 }]
  methods := #[k9m0, k9m1, k9m2, k9m3, k9m4, k9m5, k9m6, k9m7]
  instanceTypes := #[(.object "java/lang/String"), (.object "com/example/notice_to_drain/noticetodrain/drain/HookOutcome$Ending"), (.object "java/lang/Integer")]
  staticTypes := #[]
  resolved := Array.replicate 105 none
  statics := none }

def pool10 : Array CpInfo := pool [(2, .class_ 4), (1, u "java/lang/Enum"), (0, u "name"), (0, u "Ljava/lang/String;"), (0, .fieldref 2 8), (0, .nameAndType 9 10), (0, u "ordinal"), (0, u "I"), (1, .class_ 14), (1, u "java/lang/Object"), (4, u "hash"), (86, .class_ 108), (1, u "java/lang/Enum$EnumDesc"), (2, .class_ 112), (0, u "java/lang/constant/Constable"), (0, .class_ 114), (0, u "java/lang/Comparable"), (0, .class_ 116), (0, u "java/io/Serializable"), (9, u "()I")] 77

def k10c0 : Code := { maxStack := 1, maxLocals := 1, code := jdk_37_method_2_code, exceptionTable := #[], attributes := #[] }
def k10m0 : Method := { name := "ordinal", desc := "()I", sig := { parameters := [], returnType := some .int }, accessFlags := 17, code := some k10c0 }
/-- java/lang/Enum -/
def k10 : Class := { plain "java/lang/Enum" (some 0) with
  accessFlags := 1057
  interfaces := #[5, 3, 2]
  cf := some (fileOf pool10 2 #[.nestMembers #[106]] #[{ accessFlags := 17, nameIndex := 9, descriptorIndex := 126, attributes := #[] }] 1057 12 #[111, 113, 115] #[{ accessFlags := 18, nameIndex := 5, descriptorIndex := 6, attributes := #[] }, { accessFlags := 18, nameIndex := 9, descriptorIndex := 10, attributes := #[] }, { accessFlags := 2, nameIndex := 19, descriptorIndex := 10, attributes := #[] }])
  fields := #[{ name := "name", type := (.object "java/lang/String"), accessFlags := 18, slot := 0, constantValue := 0 }, { name := "ordinal", type := .int, accessFlags := 18, slot := 1, constantValue := 0 }, { name := "hash", type := .int, accessFlags := 2, slot := 2, constantValue := 0 }]
  methods := #[k10m0]
  instanceTypes := #[(.object "java/lang/String"), .int, .int]
  staticTypes := #[]
  resolved := Array.replicate 204 none
  statics := none }

def pool11 : Array CpInfo := pool [(1, .class_ 2), (0, u "com/example/notice_to_drain/noticetodrain/drain/HookOutcome$Ending"), (2, u "EXITED"), (0, u "Lcom/example/notice_to_drain/noticetodrain/drain/HookOutcome$Ending;"), (2, u "UNSTARTED"), (2, u "TIMED_OUT"), (2, u "UNKNOWN"), (2, u "$VALUES"), (0, u "[Lcom/example/notice_to_drain/noticetodrain/drain/HookOutcome$Ending;"), (6, .class_ 28), (1, u "java/lang/Enum"), (27, .class_ 57), (0, u "com/example/notice_to_drain/noticetodrain/drain/HookOutcome")] 2

/-- com/example/notice_to_drain/noticetodrain/drain/HookOutcome$Ending -/
def k11 : Class := { plain "com/example/notice_to_drain/noticetodrain/drain/HookOutcome$Ending" (some 10) with
  accessFlags := 16432
  interfaces := #[]
  cf := some (fileOf pool11 1 #[.nestHost 56] #[] 16432 26 #[] #[{ accessFlags := 16409, nameIndex := 5, descriptorIndex := 6, attributes := #[] }, { accessFlags := 16409, nameIndex := 9, descriptorIndex := 6, attributes := #[] }, { accessFlags := 16409, nameIndex := 12, descriptorIndex := 6, attributes := #[] }, { accessFlags := 16409, nameIndex := 15, descriptorIndex := 6, attributes := #[] }, { accessFlags := 4122, nameIndex := 18, descriptorIndex := 19, attributes := #[] }])
  fields := #[{ name := "EXITED", type := (.object "com/example/notice_to_drain/noticetodrain/drain/HookOutcome$Ending"), accessFlags := 16409, slot := 0, constantValue := 0 }, { name := "UNSTARTED", type := (.object "com/example/notice_to_drain/noticetodrain/drain/HookOutcome$Ending"), accessFlags := 16409, slot := 1, constantValue := 0 }, { name := "TIMED_OUT", type := (.object "com/example/notice_to_drain/noticetodrain/drain/HookOutcome$Ending"), accessFlags := 16409, slot := 2, constantValue := 0 }, { name := "UNKNOWN", type := (.object "com/example/notice_to_drain/noticetodrain/drain/HookOutcome$Ending"), accessFlags := 16409, slot := 3, constantValue := 0 }, { name := "$VALUES", type := (.array (.object "com/example/notice_to_drain/noticetodrain/drain/HookOutcome$Ending")), accessFlags := 4122, slot := 4, constantValue := 0 }]
  methods := #[]
  instanceTypes := #[(.object "java/lang/String"), .int, .int]
  staticTypes := #[(.object "com/example/notice_to_drain/noticetodrain/drain/HookOutcome$Ending"), (.object "com/example/notice_to_drain/noticetodrain/drain/HookOutcome$Ending"), (.object "com/example/notice_to_drain/noticetodrain/drain/HookOutcome$Ending"), (.object "com/example/notice_to_drain/noticetodrain/drain/HookOutcome$Ending"), (.array (.object "com/example/notice_to_drain/noticetodrain/drain/HookOutcome$Ending"))]
  resolved := Array.replicate 60 none
  statics := some 1 }

def pool12 : Array CpInfo := pool [(2, .class_ 4), (1, u "java/lang/Object"), (0, u "<init>"), (0, u "()V"), (0, .fieldref 8 9), (0, .class_ 10), (0, .nameAndType 11 12), (0, u "java/util/OptionalInt"), (0, u "isPresent"), (0, u "Z"), (2, u "value"), (0, u "I"), (0, .fieldref 8 18), (0, .nameAndType 19 20), (0, u "EMPTY"), (0, u "Ljava/util/OptionalInt;"), (28, u "empty"), (46, u "()Ljava/util/OptionalInt;"), (2, u "()Z")] 36

def k12m0 : Method := { name := "<init>", desc := "()V", sig := { parameters := [], returnType := none }, accessFlags := 2, code := none }
def k12c1 : Code := { maxStack := 1, maxLocals := 0, code := jdk_2649_method_2_code, exceptionTable := #[], attributes := #[] }
def k12m1 : Method := { name := "empty", desc := "()Ljava/util/OptionalInt;", sig := { parameters := [], returnType := some (.object "java/util/OptionalInt") }, accessFlags := 9, code := some k12c1 }
def k12c2 : Code := { maxStack := 1, maxLocals := 1, code := jdk_2649_method_6_code, exceptionTable := #[], attributes := #[] }
def k12m2 : Method := { name := "isPresent", desc := "()Z", sig := { parameters := [], returnType := some .boolean }, accessFlags := 1, code := some k12c2 }
/-- java/util/OptionalInt -/
def k12 : Class := { plain "java/util/OptionalInt" (some 0) with
  accessFlags := 49
  interfaces := #[]
  cf := some (fileOf pool12 8 #[] #[{ accessFlags := 2, nameIndex := 5, descriptorIndex := 6, attributes := #[] }, { accessFlags := 9, nameIndex := 49, descriptorIndex := 96, attributes := #[] }, { accessFlags := 1, nameIndex := 11, descriptorIndex := 99, attributes := #[] }] 49 2 #[] #[{ accessFlags := 26, nameIndex := 19, descriptorIndex := 20, attributes := #[] }, { accessFlags := 18, nameIndex := 11, descriptorIndex := 12, attributes := #[] }, { accessFlags := 18, nameIndex := 15, descriptorIndex := 16, attributes := #[] }])
  fields := #[{ name := "EMPTY", type := (.object "java/util/OptionalInt"), accessFlags := 26, slot := 0, constantValue := 0 }, { name := "isPresent", type := .boolean, accessFlags := 18, slot := 0, constantValue := 0 }, { name := "value", type := .int, accessFlags := 18, slot := 1, constantValue := 0 }]
  methods := #[k12m0, k12m1, k12m2]
  instanceTypes := #[.boolean, .int]
  staticTypes := #[(.object "java/util/OptionalInt")]
  resolved := Array.replicate 136 none
  statics := some 2 }

def pool13 : Array CpInfo := pool [(1, .class_ 2), (0, u "java/lang/Appendable"), (0, .class_ 4), (0, u "java/lang/Object")] 9

/-- java/lang/Appendable -/
def k13 : Class := { plain "java/lang/Appendable" (some 0) with
  accessFlags := 1537
  interfaces := #[]
  cf := some (fileOf pool13 1 #[] #[] 1537 3 #[] #[])
  fields := #[]
  methods := #[]
  instanceTypes := #[]
  staticTypes := #[]
  resolved := Array.replicate 14 none
  statics := none }

def pool14 : Array CpInfo := pool [(1, .class_ 2), (0, u "java/lang/String"), (0, .methodref 4 5), (0, .class_ 6), (0, .nameAndType 7 8), (0, u "java/lang/Object"), (0, u "<init>"), (0, u "()V"), (1, .class_ 12), (1, u "java/lang/AbstractStringBuilder"), (0, u "EMPTYVALUE"), (0, u "[B"), (0, .fieldref 10 16), (0, .nameAndType 17 14), (0, u "value"), (0, .fieldref 1 19), (0, .nameAndType 20 21), (0, u "COMPACT_STRINGS"), (0, u "Z"), (0, .fieldref 10 23), (0, .nameAndType 24 25), (0, u "coder"), (0, u "B"), (6, .methodref 1 33), (0, .nameAndType 34 35), (0, u "length"), (0, u "()I"), (3, .integer 2147483647), (0, .methodref 1 41), (0, .nameAndType 24 42), (0, u "()B"), (2, u "append"), (0, u "(Ljava/lang/String;)Ljava/lang/AbstractStringBuilder;"), (1, .class_ 49), (0, u "java/lang/CharSequence"), (19, u "(Ljava/lang/String;)V"), (5, u "maybeLatin1"), (3, .fieldref 10 80), (0, .nameAndType 81 82), (0, u "count"), (0, u "I"), (2, u "isLatin1"), (0, u "()Z"), (13, .methodref 10 101), (0, .nameAndType 102 103), (0, u "ensureCapacityInternal"), (0, u "(I)V"), (0, .methodref 10 105), (0, .nameAndType 106 107), (0, u "newCapacity"), (0, u "(I)I"), (0, .methodref 109 110), (0, .class_ 111), (0, .nameAndType 112 113), (0, u "java/util/Arrays"), (0, u "copyOf"), (0, u "([BI)[B"), (0, .methodref 115 116), (0, .class_ 117), (0, .nameAndType 118 119), (0, u "jdk/internal/util/ArraysSupport"), (0, u "newLength"), (0, u "(III)I"), (88, .methodref 10 209), (0, .nameAndType 210 211), (0, u "putStringAt"), (0, u "(ILjava/lang/String;)V"), (5, u "inflateIfNeededFor"), (2, .nameAndType 221 222), (0, u "getBytes"), (0, u "([BIB)V"), (174, .methodref 10 398), (0, .nameAndType 217 69), (0, .methodref 1 220), (3, u "()[B"), (40, .class_ 445), (0, u "java/lang/Appendable"), (106, u "getValue")] 56

def k14m0 : Method := { name := "<init>", desc := "()V", sig := { parameters := [], returnType := none }, accessFlags := 0, code := none }
def k14c1 : Code := { maxStack := 2, maxLocals := 2, code := jdk_68_method_2_code, exceptionTable := #[], attributes := #[] }
def k14m1 : Method := { name := "<init>", desc := "(I)V", sig := { parameters := [.int], returnType := none }, accessFlags := 0, code := some k14c1 }
def k14c2 : Code := { maxStack := 1, maxLocals := 1, code := jdk_68_method_6_code, exceptionTable := #[], attributes := #[] }
def k14m2 : Method := { name := "length", desc := "()I", sig := { parameters := [], returnType := some .int }, accessFlags := 1, code := some k14c2 }
def k14c3 : Code := { maxStack := 4, maxLocals := 3, code := jdk_68_method_9_code, exceptionTable := #[], attributes := #[] }
def k14m3 : Method := { name := "ensureCapacityInternal", desc := "(I)V", sig := { parameters := [.int], returnType := none }, accessFlags := 2, code := some k14c3 }
def k14c4 : Code := { maxStack := 5, maxLocals := 6, code := jdk_68_method_10_code, exceptionTable := #[], attributes := #[] }
def k14m4 : Method := { name := "newCapacity", desc := "(I)I", sig := { parameters := [.int], returnType := some .int }, accessFlags := 2, code := some k14c4 }
def k14c5 : Code := { maxStack := 3, maxLocals := 3, code := jdk_68_method_22_code, exceptionTable := #[], attributes := #[] }
def k14m5 : Method := { name := "append", desc := "(Ljava/lang/String;)Ljava/lang/AbstractStringBuilder;", sig := { parameters := [(.object "java/lang/String")], returnType := some (.object "java/lang/AbstractStringBuilder") }, accessFlags := 1, code := some k14c5 }
def k14c6 : Code := { maxStack := 1, maxLocals := 1, code := jdk_68_method_64_code, exceptionTable := #[], attributes := #[] }
def k14m6 : Method := { name := "getValue", desc := "()[B", sig := { parameters := [], returnType := some (.array .byte) }, accessFlags := 16, code := some k14c6 }
def k14c7 : Code := { maxStack := 1, maxLocals := 1, code := jdk_68_method_68_code, exceptionTable := #[], attributes := #[] }
def k14m7 : Method := { name := "isLatin1", desc := "()Z", sig := { parameters := [], returnType := some .boolean }, accessFlags := 16, code := some k14c7 }
def k14c8 : Code := { maxStack := 2, maxLocals := 2, code := jdk_68_method_71_code, exceptionTable := #[], attributes := #[] }
def k14m8 : Method := { name := "inflateIfNeededFor", desc := "(Ljava/lang/String;)V", sig := { parameters := [(.object "java/lang/String")], returnType := none }, accessFlags := 2, code := some k14c8 }
def k14c9 : Code := { maxStack := 4, maxLocals := 3, code := jdk_68_method_73_code, exceptionTable := #[], attributes := #[] }
def k14m9 : Method := { name := "putStringAt", desc := "(ILjava/lang/String;)V", sig := { parameters := [.int, (.object "java/lang/String")], returnType := none }, accessFlags := 2, code := some k14c9 }
/-- java/lang/AbstractStringBuilder -/
def k14 : Class := { plain "java/lang/AbstractStringBuilder" (some 0) with
  accessFlags := 1056
  interfaces := #[13, 4]
  cf := some (fileOf pool14 10 #[] #[{ accessFlags := 0, nameIndex := 7, descriptorIndex := 8, attributes := #[] }, { accessFlags := 0, nameIndex := 7, descriptorIndex := 103, attributes := #[] }, { accessFlags := 1, nameIndex := 34, descriptorIndex := 35, attributes := #[] }, { accessFlags := 2, nameIndex := 102, descriptorIndex := 103, attributes := #[] }, { accessFlags := 2, nameIndex := 106, descriptorIndex := 107, attributes := #[] }, { accessFlags := 1, nameIndex := 45, descriptorIndex := 46, attributes := #[] }, { accessFlags := 16, nameIndex := 552, descriptorIndex := 403, attributes := #[] }, { accessFlags := 16, nameIndex := 85, descriptorIndex := 86, attributes := #[] }, { accessFlags := 2, nameIndex := 217, descriptorIndex := 69, attributes := #[] }, { accessFlags := 2, nameIndex := 210, descriptorIndex := 211, attributes := #[] }] 1056 4 #[444, 48] #[{ accessFlags := 0, nameIndex := 17, descriptorIndex := 14, attributes := #[] }, { accessFlags := 0, nameIndex := 24, descriptorIndex := 25, attributes := #[] }, { accessFlags := 0, nameIndex := 75, descriptorIndex := 21, attributes := #[] }, { accessFlags := 0, nameIndex := 81, descriptorIndex := 82, attributes := #[] }, { accessFlags := 26, nameIndex := 13, descriptorIndex := 14, attributes := #[] }])
  fields := #[{ name := "value", type := (.array .byte), accessFlags := 0, slot := 0, constantValue := 0 }, { name := "coder", type := .byte, accessFlags := 0, slot := 1, constantValue := 0 }, { name := "maybeLatin1", type := .boolean, accessFlags := 0, slot := 2, constantValue := 0 }, { name := "count", type := .int, accessFlags := 0, slot := 3, constantValue := 0 }, { name := "EMPTYVALUE", type := (.array .byte), accessFlags := 26, slot := 0, constantValue := 0 }]
  methods := #[k14m0, k14m1, k14m2, k14m3, k14m4, k14m5, k14m6, k14m7, k14m8, k14m9]
  instanceTypes := #[(.array .byte), .byte, .boolean, .int]
  staticTypes := #[(.array .byte)]
  resolved := Array.replicate 609 none
  statics := none }

def pool15 : Array CpInfo := pool [(1, .methodref 2 3), (0, .class_ 4), (0, .nameAndType 5 6), (0, u "java/lang/AbstractStringBuilder"), (0, u "<init>"), (0, u "(I)V"), (11, .class_ 20), (1, u "java/lang/String"), (3, .class_ 26), (1, u "java/lang/StringBuilder"), (0, u "append"), (0, u "(Ljava/lang/String;)Ljava/lang/StringBuilder;"), (0, .methodref 2 30), (0, .nameAndType 27 31), (0, u "(Ljava/lang/String;)Ljava/lang/AbstractStringBuilder;"), (105, .methodref 18 138), (0, .nameAndType 5 139), (0, u "(Ljava/lang/StringBuilder;)V"), (5, u "()V"), (10, u "()I"), (186, .methodref 2 344), (0, .nameAndType 345 156), (0, u "length"), (3, .class_ 350), (0, u "java/lang/Appendable"), (0, .class_ 352), (0, u "java/io/Serializable"), (0, .class_ 354), (0, u "java/lang/Comparable"), (0, .class_ 356), (0, u "java/lang/CharSequence"), (0, u "serialVersionUID"), (0, u "J"), (40, u "toString"), (0, u "()Ljava/lang/String;")] 21

def k15c0 : Code := { maxStack := 2, maxLocals := 1, code := jdk_67_method_1_code, exceptionTable := #[], attributes := #[] }
def k15m0 : Method := { name := "<init>", desc := "()V", sig := { parameters := [], returnType := none }, accessFlags := 1, code := some k15c0 }
def k15c1 : Code := { maxStack := 2, maxLocals := 2, code := jdk_67_method_7_code, exceptionTable := #[], attributes := #[] }
def k15m1 : Method := { name := "append", desc := "(Ljava/lang/String;)Ljava/lang/StringBuilder;", sig := { parameters := [(.object "java/lang/String")], returnType := some (.object "java/lang/StringBuilder") }, accessFlags := 1, code := some k15c1 }
def k15c2 : Code := { maxStack := 3, maxLocals := 1, code := jdk_67_method_42_code, exceptionTable := #[], attributes := #[] }
def k15m2 : Method := { name := "toString", desc := "()Ljava/lang/String;", sig := { parameters := [], returnType := some (.object "java/lang/String") }, accessFlags := 1, code := some k15c2 }
def k15c3 : Code := { maxStack := 1, maxLocals := 1, code := jdk_67_method_93_code, exceptionTable := #[], attributes := #[] }
def k15m3 : Method := { name := "length", desc := "()I", sig := { parameters := [], returnType := some .int }, accessFlags := 4161, code := some k15c3 }
/-- java/lang/StringBuilder -/
def k15 : Class := { plain "java/lang/StringBuilder" (some 14) with
  accessFlags := 49
  interfaces := #[13, 2, 3, 4]
  cf := some (fileOf pool15 24 #[] #[{ accessFlags := 1, nameIndex := 5, descriptorIndex := 145, attributes := #[] }, { accessFlags := 1, nameIndex := 27, descriptorIndex := 28, attributes := #[] }, { accessFlags := 1, nameIndex := 399, descriptorIndex := 400, attributes := #[] }, { accessFlags := 4161, nameIndex := 345, descriptorIndex := 156, attributes := #[] }] 49 2 #[349, 351, 353, 355] #[{ accessFlags := 24, nameIndex := 357, descriptorIndex := 358, attributes := #[] }])
  fields := #[{ name := "serialVersionUID", type := .long, accessFlags := 24, slot := 0, constantValue := 0 }]
  methods := #[k15m0, k15m1, k15m2, k15m3]
  instanceTypes := #[(.array .byte), .byte, .boolean, .int]
  staticTypes := #[.long]
  resolved := Array.replicate 422 none
  statics := none }

def pool16 : Array CpInfo := pool [(2, .class_ 4), (1, u "java/lang/Object"), (0, u "<init>"), (0, u "()V"), (1, .class_ 10), (1, u "java/lang/System"), (0, u "allowSecurityManager"), (0, u "I"), (16, u "cons"), (0, u "Ljava/io/Console;"), (77, .class_ 110), (1, u "java/lang/System$CallersHolder"), (43, u "initialErrStream"), (0, u "Ljava/io/PrintStream;"), (19, u "security"), (0, u "Ljava/lang/SecurityManager;"), (31, .class_ 209), (0, u "java/lang/System$1"), (7, u "props"), (0, u "Ljava/util/Properties;"), (2, u "lineSeparator"), (0, u "Ljava/lang/String;"), (96, .class_ 321), (1, u "java/lang/System$LoggerFinder"), (5, .class_ 328), (0, u "java/lang/System$Logger"), (67, u "err"), (2, u "out"), (91, u "notSupportedJnuEncoding"), (15, u "in"), (17, u "initialIn"), (0, u "Ljava/io/InputStream;"), (35, u "bootLayer"), (0, u "Ljava/lang/ModuleLayer;"), (99, .class_ 664), (0, u "java/lang/System$2"), (9, u "NEVER"), (2, u "MAYBE"), (49, u "arraycopy"), (0, u "(Ljava/lang/Object;ILjava/lang/Object;II)V"), (72, .class_ 802), (0, u "java/lang/System$Logger$Level")] 31

def k16m0 : Method := { name := "<init>", desc := "()V", sig := { parameters := [], returnType := none }, accessFlags := 2, code := none }
def k16m1 : Method := { name := "arraycopy", desc := "(Ljava/lang/Object;ILjava/lang/Object;II)V", sig := { parameters := [(.object "java/lang/Object"), .int, (.object "java/lang/Object"), .int, .int], returnType := none }, accessFlags := 265, code := none }
/-- java/lang/System -/
def k16 : Class := { plain "java/lang/System" (some 0) with
  accessFlags := 49
  interfaces := #[]
  cf := some (fileOf pool16 8 #[.nestMembers #[319, 327, 801, 108, 663, 208]] #[{ accessFlags := 2, nameIndex := 5, descriptorIndex := 6, attributes := #[] }, { accessFlags := 265, nameIndex := 727, descriptorIndex := 728, attributes := #[] }] 49 2 #[] #[{ accessFlags := 25, nameIndex := 507, descriptorIndex := 526, attributes := #[] }, { accessFlags := 25, nameIndex := 399, descriptorIndex := 155, attributes := #[] }, { accessFlags := 25, nameIndex := 396, descriptorIndex := 155, attributes := #[] }, { accessFlags := 10, nameIndex := 525, descriptorIndex := 526, attributes := #[] }, { accessFlags := 26, nameIndex := 674, descriptorIndex := 12, attributes := #[] }, { accessFlags := 26, nameIndex := 677, descriptorIndex := 12, attributes := #[] }, { accessFlags := 10, nameIndex := 11, descriptorIndex := 12, attributes := #[] }, { accessFlags := 74, nameIndex := 175, descriptorIndex := 176, attributes := #[] }, { accessFlags := 10, nameIndex := 491, descriptorIndex := 222, attributes := #[] }, { accessFlags := 74, nameIndex := 29, descriptorIndex := 30, attributes := #[] }, { accessFlags := 74, nameIndex := 154, descriptorIndex := 155, attributes := #[] }, { accessFlags := 10, nameIndex := 217, descriptorIndex := 218, attributes := #[] }, { accessFlags := 10, nameIndex := 221, descriptorIndex := 222, attributes := #[] }, { accessFlags := 8, nameIndex := 562, descriptorIndex := 563, attributes := #[] }])
  fields := #[{ name := "in", type := (.object "java/io/InputStream"), accessFlags := 25, slot := 0, constantValue := 0 }, { name := "out", type := (.object "java/io/PrintStream"), accessFlags := 25, slot := 1, constantValue := 0 }, { name := "err", type := (.object "java/io/PrintStream"), accessFlags := 25, slot := 2, constantValue := 0 }, { name := "initialIn", type := (.object "java/io/InputStream"), accessFlags := 10, slot := 3, constantValue := 0 }, { name := "NEVER", type := .int, accessFlags := 26, slot := 4, constantValue := 0 }, { name := "MAYBE", type := .int, accessFlags := 26, slot := 5, constantValue := 0 }, { name := "allowSecurityManager", type := .int, accessFlags := 10, slot := 6, constantValue := 0 }, { name := "security", type := (.object "java/lang/SecurityManager"), accessFlags := 74, slot := 7, constantValue := 0 }, { name := "notSupportedJnuEncoding", type := (.object "java/lang/String"), accessFlags := 10, slot := 8, constantValue := 0 }, { name := "cons", type := (.object "java/io/Console"), accessFlags := 74, slot := 9, constantValue := 0 }, { name := "initialErrStream", type := (.object "java/io/PrintStream"), accessFlags := 74, slot := 10, constantValue := 0 }, { name := "props", type := (.object "java/util/Properties"), accessFlags := 10, slot := 11, constantValue := 0 }, { name := "lineSeparator", type := (.object "java/lang/String"), accessFlags := 10, slot := 12, constantValue := 0 }, { name := "bootLayer", type := (.object "java/lang/ModuleLayer"), accessFlags := 8, slot := 13, constantValue := 0 }]
  methods := #[k16m0, k16m1]
  instanceTypes := #[]
  staticTypes := #[(.object "java/io/InputStream"), (.object "java/io/PrintStream"), (.object "java/io/PrintStream"), (.object "java/io/InputStream"), .int, .int, .int, (.object "java/lang/SecurityManager"), (.object "java/lang/String"), (.object "java/io/Console"), (.object "java/io/PrintStream"), (.object "java/util/Properties"), (.object "java/lang/String"), (.object "java/lang/ModuleLayer")]
  resolved := Array.replicate 834 none
  statics := none }

def pool17 : Array CpInfo := pool [(2, .class_ 4), (1, u "java/lang/Object"), (0, u "<init>"), (0, u "()V"), (7, .class_ 16), (1, u "java/util/Arrays"), (57, .class_ 76), (1, u "java/util/Arrays$NaturalOrder"), (32, u "()Ljava/lang/Object;"), (3, .class_ 115), (1, u "java/util/Arrays$LegacyMergeSort"), (1, u "Z"), (10, .nameAndType 129 109), (0, u "clone"), (9, u "copyOfRange"), (10, .methodref 151 152), (0, .class_ 153), (0, .nameAndType 154 155), (0, u "java/lang/System"), (0, u "arraycopy"), (0, u "(Ljava/lang/Object;ILjava/lang/Object;II)V"), (146, u "copyOf"), (1, .methodref 305 306), (0, .class_ 307), (0, .nameAndType 308 309), (0, u "java/lang/Math"), (0, u "min"), (0, u "(II)I"), (0, .methodref 311 128), (0, .class_ 312), (0, u "[B"), (26, .methodref 14 340), (0, .nameAndType 341 342), (0, u "copyOfRangeByte"), (0, u "([BII)[B"), (0, .methodref 14 344), (0, .nameAndType 345 346), (0, u "checkLength"), (0, u "(II)V"), (28, .class_ 376), (0, u "java/util/Arrays$ArrayList"), (68, u "$assertionsDisabled"), (269, u "MIN_ARRAY_SORT_GRAN"), (0, u "I"), (2, u "INSERTIONSORT_THRESHOLD"), (149, u "([BI)[B"), (105, .class_ 976), (0, u "java/util/Arrays$ArrayItr")] 52

def k17m0 : Method := { name := "<init>", desc := "()V", sig := { parameters := [], returnType := none }, accessFlags := 2, code := none }
def k17c1 : Code := { maxStack := 6, maxLocals := 3, code := jdk_65_method_121_code, exceptionTable := #[], attributes := #[] }
def k17m1 : Method := { name := "copyOf", desc := "([BI)[B", sig := { parameters := [(.array .byte), .int], returnType := some (.array .byte) }, accessFlags := 9, code := some k17c1 }
def k17c2 : Code := { maxStack := 4, maxLocals := 2, code := jdk_65_method_131_code, exceptionTable := #[], attributes := #[] }
def k17m2 : Method := { name := "checkLength", desc := "(II)V", sig := { parameters := [.int, .int], returnType := none }, accessFlags := 10, code := some k17c2 }
def k17c3 : Code := { maxStack := 3, maxLocals := 3, code := jdk_65_method_132_code, exceptionTable := #[], attributes := #[] }
def k17m3 : Method := { name := "copyOfRange", desc := "([BII)[B", sig := { parameters := [(.array .byte), .int, .int], returnType := some (.array .byte) }, accessFlags := 9, code := some k17c3 }
def k17c4 : Code := { maxStack := 6, maxLocals := 5, code := jdk_65_method_133_code, exceptionTable := #[], attributes := #[] }
def k17m4 : Method := { name := "copyOfRangeByte", desc := "([BII)[B", sig := { parameters := [(.array .byte), .int, .int], returnType := some (.array .byte) }, accessFlags := 10, code := some k17c4 }
/-- java/util/Arrays -/
def k17 : Class := { plain "java/util/Arrays" (some 0) with
  accessFlags := 49
  interfaces := #[]
  cf := some (fileOf pool17 14 #[.nestMembers #[975, 375, 113, 74]] #[{ accessFlags := 2, nameIndex := 5, descriptorIndex := 6, attributes := #[] }, { accessFlags := 9, nameIndex := 302, descriptorIndex := 869, attributes := #[] }, { accessFlags := 10, nameIndex := 345, descriptorIndex := 346, attributes := #[] }, { accessFlags := 9, nameIndex := 139, descriptorIndex := 342, attributes := #[] }, { accessFlags := 10, nameIndex := 341, descriptorIndex := 342, attributes := #[] }] 49 2 #[] #[{ accessFlags := 26, nameIndex := 715, descriptorIndex := 716, attributes := #[] }, { accessFlags := 26, nameIndex := 719, descriptorIndex := 716, attributes := #[] }, { accessFlags := 4120, nameIndex := 445, descriptorIndex := 117, attributes := #[] }])
  fields := #[{ name := "MIN_ARRAY_SORT_GRAN", type := .int, accessFlags := 26, slot := 0, constantValue := 0 }, { name := "INSERTIONSORT_THRESHOLD", type := .int, accessFlags := 26, slot := 1, constantValue := 0 }, { name := "$assertionsDisabled", type := .boolean, accessFlags := 4120, slot := 2, constantValue := 0 }]
  methods := #[k17m0, k17m1, k17m2, k17m3, k17m4]
  instanceTypes := #[]
  staticTypes := #[.int, .int, .boolean]
  resolved := Array.replicate 1029 none
  statics := none }

def pool18 : Array CpInfo := pool [(1, .class_ 2), (0, u "java/lang/Cloneable"), (0, .class_ 4), (0, u "java/lang/Object")] 2

/-- java/lang/Cloneable -/
def k18 : Class := { plain "java/lang/Cloneable" (some 0) with
  accessFlags := 1537
  interfaces := #[]
  cf := some (fileOf pool18 1 #[] #[] 1537 3 #[] #[])
  fields := #[]
  methods := #[]
  instanceTypes := #[]
  staticTypes := #[]
  resolved := Array.replicate 7 none
  statics := none }

def pool19 : Array CpInfo := pool [(4, .class_ 6), (1, u "java/lang/Object"), (0, u "<init>"), (0, u "()V"), (5, .class_ 16), (1, u "java/lang/StringLatin1"), (104, u "$assertionsDisabled"), (0, u "Z"), (98, .class_ 223), (1, u "java/lang/StringLatin1$LinesSpliterator"), (57, u "equals"), (0, u "([B[B)Z"), (107, .class_ 391), (0, u "java/lang/StringLatin1$CharsSpliterator")] 3

def k19m0 : Method := { name := "<init>", desc := "()V", sig := { parameters := [], returnType := none }, accessFlags := 0, code := none }
def k19c1 : Code := { maxStack := 3, maxLocals := 3, code := jdk_43_method_13_code, exceptionTable := #[], attributes := #[] }
def k19m1 : Method := { name := "equals", desc := "([B[B)Z", sig := { parameters := [(.array .byte), (.array .byte)], returnType := some .boolean }, accessFlags := 9, code := some k19c1 }
/-- java/lang/StringLatin1 -/
def k19 : Class := { plain "java/lang/StringLatin1" (some 0) with
  accessFlags := 48
  interfaces := #[]
  cf := some (fileOf pool19 14 #[.nestMembers #[390, 221]] #[{ accessFlags := 0, nameIndex := 7, descriptorIndex := 8, attributes := #[] }, { accessFlags := 9, nameIndex := 281, descriptorIndex := 282, attributes := #[] }] 48 4 #[] #[{ accessFlags := 4120, nameIndex := 121, descriptorIndex := 122, attributes := #[] }])
  fields := #[{ name := "$assertionsDisabled", type := .boolean, accessFlags := 4120, slot := 0, constantValue := 0 }]
  methods := #[k19m0, k19m1]
  instanceTypes := #[]
  staticTypes := #[.boolean]
  resolved := Array.replicate 395 none
  statics := none }

def pool20 : Array CpInfo := pool [(9, u "<init>"), (6, .class_ 18), (1, u "java/lang/Object"), (0, u "()V"), (1, .class_ 23), (1, u "jdk/internal/util/ArraysSupport"), (0, u "LOG2_ARRAY_LONG_INDEX_SCALE"), (0, u "I"), (2, u "U"), (0, u "Ljdk/internal/misc/Unsafe;"), (8, u "BIG_ENDIAN"), (0, u "Z"), (8, u "LOG2_BYTE_BIT_SIZE"), (4, u "LOG2_ARRAY_INT_INDEX_SCALE"), (54, u "JLA"), (0, u "Ljdk/internal/access/JavaLangAccess;"), (11, u "LOG2_ARRAY_BOOLEAN_INDEX_SCALE"), (9, u "LOG2_ARRAY_BYTE_INDEX_SCALE"), (5, u "LOG2_ARRAY_CHAR_INDEX_SCALE"), (5, u "LOG2_ARRAY_SHORT_INDEX_SCALE"), (18, u "LOG2_ARRAY_FLOAT_INDEX_SCALE"), (24, u "LOG2_ARRAY_DOUBLE_INDEX_SCALE"), (6, .methodref 195 196), (0, .class_ 197), (0, .nameAndType 198 199), (0, u "java/lang/Math"), (0, u "max"), (0, u "(II)I"), (0, .integer 2147483639), (76, u "T_BOOLEAN"), (2, u "T_CHAR"), (1, u "T_FLOAT"), (1, u "T_DOUBLE"), (1, u "T_BYTE"), (1, u "T_SHORT"), (1, u "T_INT"), (1, u "T_LONG"), (1, u "SOFT_MAX_ARRAY_LENGTH"), (56, u "newLength"), (0, u "(III)I")] 25

def k20m0 : Method := { name := "<init>", desc := "()V", sig := { parameters := [], returnType := none }, accessFlags := 2, code := none }
def k20c1 : Code := { maxStack := 3, maxLocals := 4, code := jdk_48_method_27_code, exceptionTable := #[], attributes := #[] }
def k20m1 : Method := { name := "newLength", desc := "(III)I", sig := { parameters := [.int, .int, .int], returnType := some .int }, accessFlags := 9, code := some k20c1 }
/-- jdk/internal/util/ArraysSupport -/
def k20 : Class := { plain "jdk/internal/util/ArraysSupport" (some 0) with
  accessFlags := 33
  interfaces := #[]
  cf := some (fileOf pool20 21 #[] #[{ accessFlags := 2, nameIndex := 9, descriptorIndex := 19, attributes := #[] }, { accessFlags := 9, nameIndex := 351, descriptorIndex := 352, attributes := #[] }] 33 16 #[] #[{ accessFlags := 24, nameIndex := 28, descriptorIndex := 29, attributes := #[] }, { accessFlags := 26, nameIndex := 38, descriptorIndex := 39, attributes := #[] }, { accessFlags := 25, nameIndex := 121, descriptorIndex := 25, attributes := #[] }, { accessFlags := 25, nameIndex := 131, descriptorIndex := 25, attributes := #[] }, { accessFlags := 25, nameIndex := 137, descriptorIndex := 25, attributes := #[] }, { accessFlags := 25, nameIndex := 143, descriptorIndex := 25, attributes := #[] }, { accessFlags := 25, nameIndex := 53, descriptorIndex := 25, attributes := #[] }, { accessFlags := 25, nameIndex := 24, descriptorIndex := 25, attributes := #[] }, { accessFlags := 25, nameIndex := 162, descriptorIndex := 25, attributes := #[] }, { accessFlags := 25, nameIndex := 187, descriptorIndex := 25, attributes := #[] }, { accessFlags := 26, nameIndex := 48, descriptorIndex := 25, attributes := #[] }, { accessFlags := 25, nameIndex := 277, descriptorIndex := 25, attributes := #[] }, { accessFlags := 25, nameIndex := 280, descriptorIndex := 25, attributes := #[] }, { accessFlags := 25, nameIndex := 282, descriptorIndex := 25, attributes := #[] }, { accessFlags := 25, nameIndex := 284, descriptorIndex := 25, attributes := #[] }, { accessFlags := 25, nameIndex := 286, descriptorIndex := 25, attributes := #[] }, { accessFlags := 25, nameIndex := 288, descriptorIndex := 25, attributes := #[] }, { accessFlags := 25, nameIndex := 290, descriptorIndex := 25, attributes := #[] }, { accessFlags := 25, nameIndex := 292, descriptorIndex := 25, attributes := #[] }, { accessFlags := 26, nameIndex := 108, descriptorIndex := 109, attributes := #[] }, { accessFlags := 25, nameIndex := 294, descriptorIndex := 25, attributes := #[] }])
  fields := #[{ name := "U", type := (.object "jdk/internal/misc/Unsafe"), accessFlags := 24, slot := 0, constantValue := 0 }, { name := "BIG_ENDIAN", type := .boolean, accessFlags := 26, slot := 1, constantValue := 0 }, { name := "LOG2_ARRAY_BOOLEAN_INDEX_SCALE", type := .int, accessFlags := 25, slot := 2, constantValue := 0 }, { name := "LOG2_ARRAY_BYTE_INDEX_SCALE", type := .int, accessFlags := 25, slot := 3, constantValue := 0 }, { name := "LOG2_ARRAY_CHAR_INDEX_SCALE", type := .int, accessFlags := 25, slot := 4, constantValue := 0 }, { name := "LOG2_ARRAY_SHORT_INDEX_SCALE", type := .int, accessFlags := 25, slot := 5, constantValue := 0 }, { name := "LOG2_ARRAY_INT_INDEX_SCALE", type := .int, accessFlags := 25, slot := 6, constantValue := 0 }, { name := "LOG2_ARRAY_LONG_INDEX_SCALE", type := .int, accessFlags := 25, slot := 7, constantValue := 0 }, { name := "LOG2_ARRAY_FLOAT_INDEX_SCALE", type := .int, accessFlags := 25, slot := 8, constantValue := 0 }, { name := "LOG2_ARRAY_DOUBLE_INDEX_SCALE", type := .int, accessFlags := 25, slot := 9, constantValue := 0 }, { name := "LOG2_BYTE_BIT_SIZE", type := .int, accessFlags := 26, slot := 10, constantValue := 0 }, { name := "T_BOOLEAN", type := .int, accessFlags := 25, slot := 11, constantValue := 0 }, { name := "T_CHAR", type := .int, accessFlags := 25, slot := 12, constantValue := 0 }, { name := "T_FLOAT", type := .int, accessFlags := 25, slot := 13, constantValue := 0 }, { name := "T_DOUBLE", type := .int, accessFlags := 25, slot := 14, constantValue := 0 }, { name := "T_BYTE", type := .int, accessFlags := 25, slot := 15, constantValue := 0 }, { name := "T_SHORT", type := .int, accessFlags := 25, slot := 16, constantValue := 0 }, { name := "T_INT", type := .int, accessFlags := 25, slot := 17, constantValue := 0 }, { name := "T_LONG", type := .int, accessFlags := 25, slot := 18, constantValue := 0 }, { name := "JLA", type := (.object "jdk/internal/access/JavaLangAccess"), accessFlags := 26, slot := 19, constantValue := 0 }, { name := "SOFT_MAX_ARRAY_LENGTH", type := .int, accessFlags := 25, slot := 20, constantValue := 0 }]
  methods := #[k20m0, k20m1]
  instanceTypes := #[]
  staticTypes := #[(.object "jdk/internal/misc/Unsafe"), .boolean, .int, .int, .int, .int, .int, .int, .int, .int, .int, .int, .int, .int, .int, .int, .int, .int, .int, (.object "jdk/internal/access/JavaLangAccess"), .int]
  resolved := Array.replicate 378 none
  statics := none }

def pool21 : Array CpInfo := pool [(1, .class_ 2), (0, u "java/lang/Math"), (1, .class_ 6), (1, u "java/lang/Object"), (0, u "<init>"), (0, u "()V"), (89, .class_ 100), (1, u "java/lang/Math$RandomNumberGeneratorHolder"), (71, u "negativeZeroFloatBits"), (0, u "J"), (2, u "negativeZeroDoubleBits"), (21, u "max"), (2, u "min"), (43, u "$assertionsDisabled"), (0, u "Z"), (88, u "(II)I"), (2, u "twoToTheDoubleScaleDown"), (0, u "D"), (4, u "twoToTheDoubleScaleUp"), (9, u "E"), (3, u "PI"), (2, u "TAU"), (2, u "DEGREES_TO_RADIANS"), (0, u "RADIANS_TO_DEGREES")] 94

def k21m0 : Method := { name := "<init>", desc := "()V", sig := { parameters := [], returnType := none }, accessFlags := 2, code := none }
def k21c1 : Code := { maxStack := 2, maxLocals := 2, code := jdk_29_method_65_code, exceptionTable := #[], attributes := #[] }
def k21m1 : Method := { name := "max", desc := "(II)I", sig := { parameters := [.int, .int], returnType := some .int }, accessFlags := 9, code := some k21c1 }
def k21c2 : Code := { maxStack := 2, maxLocals := 2, code := jdk_29_method_69_code, exceptionTable := #[], attributes := #[] }
def k21m2 : Method := { name := "min", desc := "(II)I", sig := { parameters := [.int, .int], returnType := some .int }, accessFlags := 9, code := some k21c2 }
/-- java/lang/Math -/
def k21 : Class := { plain "java/lang/Math" (some 0) with
  accessFlags := 49
  interfaces := #[]
  cf := some (fileOf pool21 1 #[.nestMembers #[98]] #[{ accessFlags := 2, nameIndex := 7, descriptorIndex := 8, attributes := #[] }, { accessFlags := 9, nameIndex := 198, descriptorIndex := 335, attributes := #[] }, { accessFlags := 9, nameIndex := 201, descriptorIndex := 335, attributes := #[] }] 49 4 #[] #[{ accessFlags := 25, nameIndex := 354, descriptorIndex := 339, attributes := #[] }, { accessFlags := 25, nameIndex := 358, descriptorIndex := 339, attributes := #[] }, { accessFlags := 25, nameIndex := 361, descriptorIndex := 339, attributes := #[] }, { accessFlags := 26, nameIndex := 364, descriptorIndex := 339, attributes := #[] }, { accessFlags := 26, nameIndex := 365, descriptorIndex := 339, attributes := #[] }, { accessFlags := 26, nameIndex := 172, descriptorIndex := 173, attributes := #[] }, { accessFlags := 26, nameIndex := 176, descriptorIndex := 173, attributes := #[] }, { accessFlags := 8, nameIndex := 344, descriptorIndex := 339, attributes := #[] }, { accessFlags := 8, nameIndex := 338, descriptorIndex := 339, attributes := #[] }, { accessFlags := 4120, nameIndex := 245, descriptorIndex := 246, attributes := #[] }])
  fields := #[{ name := "E", type := .double, accessFlags := 25, slot := 0, constantValue := 0 }, { name := "PI", type := .double, accessFlags := 25, slot := 1, constantValue := 0 }, { name := "TAU", type := .double, accessFlags := 25, slot := 2, constantValue := 0 }, { name := "DEGREES_TO_RADIANS", type := .double, accessFlags := 26, slot := 3, constantValue := 0 }, { name := "RADIANS_TO_DEGREES", type := .double, accessFlags := 26, slot := 4, constantValue := 0 }, { name := "negativeZeroFloatBits", type := .long, accessFlags := 26, slot := 5, constantValue := 0 }, { name := "negativeZeroDoubleBits", type := .long, accessFlags := 26, slot := 6, constantValue := 0 }, { name := "twoToTheDoubleScaleUp", type := .double, accessFlags := 8, slot := 7, constantValue := 0 }, { name := "twoToTheDoubleScaleDown", type := .double, accessFlags := 8, slot := 8, constantValue := 0 }, { name := "$assertionsDisabled", type := .boolean, accessFlags := 4120, slot := 9, constantValue := 0 }]
  methods := #[k21m0, k21m1, k21m2]
  instanceTypes := #[]
  staticTypes := #[.double, .double, .double, .double, .double, .long, .long, .double, .double, .boolean]
  resolved := Array.replicate 460 none
  statics := none }

def pool22 : Array CpInfo := pool [(2, .class_ 4), (1, u "java/lang/Object"), (0, u "<init>"), (0, u "()V"), (17, .class_ 26), (1, u "jdk/internal/util/Preconditions"), (28, .class_ 56), (0, u "jdk/internal/util/Preconditions$4"), (57, .class_ 115), (0, u "jdk/internal/util/Preconditions$1"), (7, u "SIOOBE_FORMATTER"), (0, u "Ljava/util/function/BiFunction;"), (0, .class_ 126), (0, u "jdk/internal/util/Preconditions$2"), (3, u "AIOOBE_FORMATTER"), (0, .class_ 132), (0, u "jdk/internal/util/Preconditions$3"), (3, u "IOOBE_FORMATTER")] 57

def k22m0 : Method := { name := "<init>", desc := "()V", sig := { parameters := [], returnType := none }, accessFlags := 1, code := none }
/-- jdk/internal/util/Preconditions -/
def k22 : Class := { plain "jdk/internal/util/Preconditions" (some 0) with
  accessFlags := 33
  interfaces := #[]
  cf := some (fileOf pool22 24 #[.nestMembers #[55, 131, 125, 114]] #[{ accessFlags := 1, nameIndex := 5, descriptorIndex := 6, attributes := #[] }] 33 2 #[] #[{ accessFlags := 25, nameIndex := 123, descriptorIndex := 124, attributes := #[] }, { accessFlags := 25, nameIndex := 130, descriptorIndex := 124, attributes := #[] }, { accessFlags := 25, nameIndex := 136, descriptorIndex := 124, attributes := #[] }])
  fields := #[{ name := "SIOOBE_FORMATTER", type := (.object "java/util/function/BiFunction"), accessFlags := 25, slot := 0, constantValue := 0 }, { name := "AIOOBE_FORMATTER", type := (.object "java/util/function/BiFunction"), accessFlags := 25, slot := 1, constantValue := 0 }, { name := "IOOBE_FORMATTER", type := (.object "java/util/function/BiFunction"), accessFlags := 25, slot := 2, constantValue := 0 }]
  methods := #[k22m0]
  instanceTypes := #[]
  staticTypes := #[(.object "java/util/function/BiFunction"), (.object "java/util/function/BiFunction"), (.object "java/util/function/BiFunction")]
  resolved := Array.replicate 194 none
  statics := some 3 }

/-- the primitive byte -/
def k23 : Class := { plain "byte" none with kind := .primitive 'B', accessFlags := 0x411 }
/-- [B -/
def k24 : Class := { plain "[B" (some 0) with kind := .array 23 .byte, interfaces := #[18, 2], accessFlags := 1041 }

/-- the primitive char -/
def k25 : Class := { plain "char" none with kind := .primitive 'C', accessFlags := 0x411 }
/-- [C -/
def k26 : Class := { plain "[C" (some 0) with kind := .array 25 .char, interfaces := #[18, 2], accessFlags := 1041 }

/-- the primitive int -/
def k27 : Class := { plain "int" none with kind := .primitive 'I', accessFlags := 0x411 }
/-- [I -/
def k28 : Class := { plain "[I" (some 0) with kind := .array 27 .int, interfaces := #[18, 2], accessFlags := 1041 }

def heap : Heap := #[{ cls := 7, slots := #[.long 0, .int 1, .null, .int 0, .null, .int 0, .int 0], vm := .statics 7 },
  { cls := 11, slots := #[.null, .ref 4, .ref 5, .ref 6, .null], vm := .statics 11 },
  { cls := 12, slots := #[.ref 7], vm := .statics 12 },
  { cls := 22, slots := #[.null, .null, .null], vm := .statics 22 },
  { cls := 11, slots := #[.null, .int 1, .int 0], vm := .none },
  { cls := 11, slots := #[.null, .int 2, .int 0], vm := .none },
  { cls := 11, slots := #[.null, .int 3, .int 0], vm := .none },
  { cls := 12, slots := #[.int 0, .int 0], vm := .none }]
def classes : Array Class := #[k0, k1, k2, k3, k4, k5, k6, k7, k8, k9, k10, k11, k12, k13, k14, k15, k16, k17, k18, k19, k20, k21, k22, k23, k24, k25, k26, k27, k28]
def interned : List (Array UInt16 × Addr) := []
def slotsUsed : Nat := 27
def theMethod : MethodId := ⟨1, 1⟩
def args0 : Array Value := #[.int 1, .int 97, .int 98]
def aboutOver (below : List Frame) : State where
  vm := { classes := classes, interned := interned.toArray }
  heap := heap
  slotsUsed := slotsUsed
  threads := #[{ frames := .invoking theMethod args0 :: below }]
def below0 : List Frame := [.native { method := ⟨0, 0⟩, args := #[] }]
def about1 : State := aboutOver below0
def p0 : Program := .bare "" "" ""
def e0 : Env := launch0.env 0 0 0
theorem w_frames : about1.frames = Frame.invoking theMethod args0 :: below0 := rfl
set_option maxRecDepth 65536 in
theorem w_args : argsFit about1.vm theMethod args0 = true := by decide +kernel
set_option maxRecDepth 65536 in
theorem w_heap : heapFits about1 = true := by decide +kernel
set_option maxRecDepth 65536 in
theorem w_runnable : about1.curStatus? = some .runnable := by decide +kernel
set_option maxRecDepth 65536 in
theorem w_alone : about1.alone = true := by decide +kernel
set_option maxRecDepth 65536 in
theorem w_named : about1.methodNamed? x = some theMethod := by decide +kernel
set_option maxRecDepth 65536 in
theorem w_hears : about1.hears theMethod below0 = true := by decide +kernel
set_option maxRecDepth 65536 in
theorem w_ripe : about1.ripe theMethod args0 below0 = true := by decide +kernel
theorem w_running : about1.status = .running := rfl
set_option maxRecDepth 65536 in
theorem w_room : about1.hasRoom e0.platform room_1 = true :=
  launch0.hasRoom_least _ room_1 (by decide +kernel) (by decide +kernel) (by decide +kernel) (by decide +kernel) (by decide +kernel) (by decide +kernel)
theorem allAtoms_all (ts : List Jvm.Cond) (a : Array Jvm.Value) (st : Jvm.State) : (allAtoms ts).before a st = ts.all (fun c => c.before a st) := by
  induction ts with
  | nil => rfl
  | cons c t ih =>
    show (Jvm.Cond.and c (allAtoms t)).before a st = _
    rw [Jvm.Cond.before_and, ih, List.all_cons]
def words1 : List Jvm.Cond := Jvm.Cond.code x code maxLocals ret :: tables_1
/-- a 'code' word, met by the world's own term for the bytes: nothing is compared byte by byte -/
theorem code_word {y : MethodName} {bytes : ByteArray} {mx : Nat} {rt : Option FieldType} {a : Array Value} {s : State} {m : MethodId} {meth : Method} {c : Code} (h1 : s.methodNamed? y = some m) (h2 : s.vm.method? m = some meth) (h3 : meth.code = some c) (h4 : c.code = bytes)
    (h5 : (c.maxLocals == mx && c.exceptionTable.isEmpty && decide (c.maxStack ≤ mostOperands) && decide (meth.sig.returnType = rt) && !meth.locks && decide (parseMethodDescriptor y.desc = some meth.sig)) = true) : (Jvm.Cond.code y bytes mx rt).before a s = true := by
  simp only [Bool.and_eq_true, beq_iff_eq, Bool.not_eq_true', decide_eq_true_eq] at h5
  obtain ⟨⟨⟨⟨⟨g1, g2⟩, g3⟩, g4⟩, g5⟩, g6⟩ := h5
  simp [Cond.before, Cond.holds, Cond.value, h1, h2, h3, h4, g1, g2, g3, g4, g5, g6]
def isCode : Jvm.Cond → Bool
  | .code _ _ _ _ => true
  | _ => false
theorem all_split {L : List Jvm.Cond} {P : Jvm.Cond → Bool} (h1 : L.all (fun c => isCode c || P c) = true) (h2 : ∀ c ∈ L.filter isCode, P c = true) : L.all P = true := by
  refine List.all_eq_true.mpr fun c hc => ?_
  have h := List.all_eq_true.mp h1 c hc
  rcases Bool.eq_false_or_eq_true (isCode c) with hi | hi
  · exact h2 c (List.mem_filter.mpr ⟨hc, hi⟩)
  · simpa [hi] using h
set_option maxRecDepth 65536 in
theorem w_c0 : (Jvm.Cond.code x code maxLocals ret).before args0 about1 = true := code_word (m := ⟨1, 1⟩) (meth := k1m1) (c := k1c1) (by decide +kernel) rfl rfl rfl (by decide +kernel)
set_option maxRecDepth 65536 in
theorem w_c1 : (Jvm.Cond.code ({ cls := "java/lang/String", name := "<init>", desc := "([C)V" } : Jvm.MethodName) jdk_42_method_3_code (2 : Nat) (Option.none : Option Jvm.ClassFile.FieldType)).before args0 about1 = true := code_word (m := ⟨7, 1⟩) (meth := k7m1) (c := k7c1) (by decide +kernel) rfl rfl rfl (by decide +kernel)
set_option maxRecDepth 65536 in
theorem w_c2 : (Jvm.Cond.code ({ cls := "java/lang/String", name := "<init>", desc := "([CIILjava/lang/Void;)V" } : Jvm.MethodName) jdk_42_method_149_code (6 : Nat) (Option.none : Option Jvm.ClassFile.FieldType)).before args0 about1 = true := code_word (m := ⟨7, 6⟩) (meth := k7m6) (c := k7c6) (by decide +kernel) rfl rfl rfl (by decide +kernel)
set_option maxRecDepth 65536 in
theorem w_c3 : (Jvm.Cond.code ({ cls := "java/lang/Object", name := "<init>", desc := "()V" } : Jvm.MethodName) object_method_1_code (1 : Nat) (Option.none : Option Jvm.ClassFile.FieldType)).before args0 about1 = true := code_word (m := ⟨0, 0⟩) (meth := k0m0) (c := k0c0) (by decide +kernel) rfl rfl rfl (by decide +kernel)
set_option maxRecDepth 65536 in
theorem w_c4 : (Jvm.Cond.code ({ cls := "java/lang/StringUTF16", name := "compress", desc := "([CII)[B" } : Jvm.MethodName) jdk_52_method_16_code (6 : Nat) (Option.some (Jvm.ClassFile.FieldType.array Jvm.ClassFile.FieldType.byte))).before args0 about1 = true := code_word (m := ⟨8, 2⟩) (meth := k8m2) (c := k8c2) (by decide +kernel) rfl rfl rfl (by decide +kernel)
set_option maxRecDepth 65536 in
theorem w_c5 : (Jvm.Cond.code ({ cls := "java/lang/StringUTF16", name := "compress", desc := "([CI[BII)I" } : Jvm.MethodName) jdk_52_method_21_code (7 : Nat) (Option.some Jvm.ClassFile.FieldType.int)).before args0 about1 = true := code_word (m := ⟨8, 3⟩) (meth := k8m3) (c := k8c3) (by decide +kernel) rfl rfl rfl (by decide +kernel)
set_option maxRecDepth 65536 in
theorem w_c6 : (Jvm.Cond.code ({ cls := "java/lang/StringUTF16", name := "coderFromArrayLen", desc := "([BI)B" } : Jvm.MethodName) jdk_52_method_15_code (2 : Nat) (Option.some Jvm.ClassFile.FieldType.byte)).before args0 about1 = true := code_word (m := ⟨8, 1⟩) (meth := k8m1) (c := k8c1) (by decide +kernel) rfl rfl rfl (by decide +kernel)
set_option maxRecDepth 65536 in
theorem w_c7 : (Jvm.Cond.code ({ cls := "com/example/notice_to_drain/noticetodrain/drain/HookOutcome", name := "unstarted", desc := "(Ljava/lang/String;)Lcom/example/notice_to_drain/noticetodrain/drain/HookOutcome;" } : Jvm.MethodName) prog_5_method_3_code (1 : Nat) (Option.some (Jvm.ClassFile.FieldType.object "com/example/notice_to_drain/noticetodrain/drain/HookOutcome"))).before args0 about1 = true := code_word (m := ⟨9, 1⟩) (meth := k9m1) (c := k9c1) (by decide +kernel) rfl rfl rfl (by decide +kernel)
set_option maxRecDepth 65536 in
theorem w_c8 : (Jvm.Cond.code ({ cls := "com/example/notice_to_drain/noticetodrain/drain/HookOutcome", name := "<init>", desc := "(Ljava/lang/String;Lcom/example/notice_to_drain/noticetodrain/drain/HookOutcome$Ending;Ljava/lang/Integer;)V" } : Jvm.MethodName) prog_5_method_1_code (4 : Nat) (Option.none : Option Jvm.ClassFile.FieldType)).before args0 about1 = true := code_word (m := ⟨9, 0⟩) (meth := k9m0) (c := k9c0) (by decide +kernel) rfl rfl rfl (by decide +kernel)
set_option maxRecDepth 65536 in
theorem w_c9 : (Jvm.Cond.code ({ cls := "com/example/notice_to_drain/noticetodrain/drain/HookOutcome", name := "hook", desc := "()Ljava/lang/String;" } : Jvm.MethodName) prog_5_method_6_code (1 : Nat) (Option.some (Jvm.ClassFile.FieldType.object "java/lang/String"))).before args0 about1 = true := code_word (m := ⟨9, 2⟩) (meth := k9m2) (c := k9c2) (by decide +kernel) rfl rfl rfl (by decide +kernel)
set_option maxRecDepth 65536 in
theorem w_c10 : (Jvm.Cond.code ({ cls := "java/lang/String", name := "equals", desc := "(Ljava/lang/Object;)Z" } : Jvm.MethodName) jdk_42_method_66_code (3 : Nat) (Option.some Jvm.ClassFile.FieldType.boolean)).before args0 about1 = true := code_word (m := ⟨7, 4⟩) (meth := k7m4) (c := k7c4) (by decide +kernel) rfl rfl rfl (by decide +kernel)
set_option maxRecDepth 65536 in
theorem w_c11 : (Jvm.Cond.code ({ cls := "com/example/notice_to_drain/noticetodrain/drain/HookOutcome", name := "exitStatus", desc := "()Ljava/util/OptionalInt;" } : Jvm.MethodName) prog_5_method_7_code (1 : Nat) (Option.some (Jvm.ClassFile.FieldType.object "java/util/OptionalInt"))).before args0 about1 = true := code_word (m := ⟨9, 3⟩) (meth := k9m3) (c := k9c3) (by decide +kernel) rfl rfl rfl (by decide +kernel)
set_option maxRecDepth 65536 in
theorem w_c12 : (Jvm.Cond.code ({ cls := "java/util/OptionalInt", name := "empty", desc := "()Ljava/util/OptionalInt;" } : Jvm.MethodName) jdk_2649_method_2_code (0 : Nat) (Option.some (Jvm.ClassFile.FieldType.object "java/util/OptionalInt"))).before args0 about1 = true := code_word (m := ⟨12, 1⟩) (meth := k12m1) (c := k12c1) (by decide +kernel) rfl rfl rfl (by decide +kernel)
set_option maxRecDepth 65536 in
theorem w_c13 : (Jvm.Cond.code ({ cls := "java/util/OptionalInt", name := "isPresent", desc := "()Z" } : Jvm.MethodName) jdk_2649_method_6_code (1 : Nat) (Option.some Jvm.ClassFile.FieldType.boolean)).before args0 about1 = true := code_word (m := ⟨12, 2⟩) (meth := k12m2) (c := k12c2) (by decide +kernel) rfl rfl rfl (by decide +kernel)
set_option maxRecDepth 65536 in
theorem w_c14 : (Jvm.Cond.code ({ cls := "com/example/notice_to_drain/noticetodrain/drain/HookOutcome", name := "ok", desc := "()Z" } : Jvm.MethodName) prog_5_method_8_code (1 : Nat) (Option.some Jvm.ClassFile.FieldType.boolean)).before args0 about1 = true := code_word (m := ⟨9, 4⟩) (meth := k9m4) (c := k9c4) (by decide +kernel) rfl rfl rfl (by decide +kernel)
set_option maxRecDepth 65536 in
theorem w_c15 : (Jvm.Cond.code ({ cls := "com/example/notice_to_drain/noticetodrain/drain/HookOutcome", name := "timedOut", desc := "()Z" } : Jvm.MethodName) prog_5_method_9_code (1 : Nat) (Option.some Jvm.ClassFile.FieldType.boolean)).before args0 about1 = true := code_word (m := ⟨9, 5⟩) (meth := k9m5) (c := k9c5) (by decide +kernel) rfl rfl rfl (by decide +kernel)
set_option maxRecDepth 65536 in
theorem w_c16 : (Jvm.Cond.code ({ cls := "com/example/notice_to_drain/noticetodrain/drain/HookOutcome", name := "exitUnknown", desc := "()Z" } : Jvm.MethodName) prog_5_method_10_code (1 : Nat) (Option.some Jvm.ClassFile.FieldType.boolean)).before args0 about1 = true := code_word (m := ⟨9, 6⟩) (meth := k9m6) (c := k9c6) (by decide +kernel) rfl rfl rfl (by decide +kernel)
set_option maxRecDepth 65536 in
theorem w_c17 : (Jvm.Cond.code ({ cls := "com/example/notice_to_drain/noticetodrain/drain/HookOutcome", name := "toString", desc := "()Ljava/lang/String;" } : Jvm.MethodName) prog_5_method_11_code (2 : Nat) (Option.some (Jvm.ClassFile.FieldType.object "java/lang/String"))).before args0 about1 = true := code_word (m := ⟨9, 7⟩) (meth := k9m7) (c := k9c7) (by decide +kernel) rfl rfl rfl (by decide +kernel)
set_option maxRecDepth 65536 in
theorem w_c18 : (Jvm.Cond.code ({ cls := "java/lang/Enum", name := "ordinal", desc := "()I" } : Jvm.MethodName) jdk_37_method_2_code (1 : Nat) (Option.some Jvm.ClassFile.FieldType.int)).before args0 about1 = true := code_word (m := ⟨10, 0⟩) (meth := k10m0) (c := k10c0) (by decide +kernel) rfl rfl rfl (by decide +kernel)
set_option maxRecDepth 65536 in
theorem w_c19 : (Jvm.Cond.code ({ cls := "java/lang/StringBuilder", name := "<init>", desc := "()V" } : Jvm.MethodName) jdk_67_method_1_code (1 : Nat) (Option.none : Option Jvm.ClassFile.FieldType)).before args0 about1 = true := code_word (m := ⟨15, 0⟩) (meth := k15m0) (c := k15c0) (by decide +kernel) rfl rfl rfl (by decide +kernel)
set_option maxRecDepth 65536 in
theorem w_c20 : (Jvm.Cond.code ({ cls := "java/lang/AbstractStringBuilder", name := "<init>", desc := "(I)V" } : Jvm.MethodName) jdk_68_method_2_code (2 : Nat) (Option.none : Option Jvm.ClassFile.FieldType)).before args0 about1 = true := code_word (m := ⟨14, 1⟩) (meth := k14m1) (c := k14c1) (by decide +kernel) rfl rfl rfl (by decide +kernel)
set_option maxRecDepth 65536 in
theorem w_c21 : (Jvm.Cond.code ({ cls := "java/lang/StringBuilder", name := "append", desc := "(Ljava/lang/String;)Ljava/lang/StringBuilder;" } : Jvm.MethodName) jdk_67_method_7_code (2 : Nat) (Option.some (Jvm.ClassFile.FieldType.object "java/lang/StringBuilder"))).before args0 about1 = true := code_word (m := ⟨15, 1⟩) (meth := k15m1) (c := k15c1) (by decide +kernel) rfl rfl rfl (by decide +kernel)
set_option maxRecDepth 65536 in
theorem w_c22 : (Jvm.Cond.code ({ cls := "java/lang/AbstractStringBuilder", name := "append", desc := "(Ljava/lang/String;)Ljava/lang/AbstractStringBuilder;" } : Jvm.MethodName) jdk_68_method_22_code (3 : Nat) (Option.some (Jvm.ClassFile.FieldType.object "java/lang/AbstractStringBuilder"))).before args0 about1 = true := code_word (m := ⟨14, 5⟩) (meth := k14m5) (c := k14c5) (by decide +kernel) rfl rfl rfl (by decide +kernel)
set_option maxRecDepth 65536 in
theorem w_c23 : (Jvm.Cond.code ({ cls := "java/lang/String", name := "length", desc := "()I" } : Jvm.MethodName) jdk_42_method_54_code (1 : Nat) (Option.some Jvm.ClassFile.FieldType.int)).before args0 about1 = true := code_word (m := ⟨7, 3⟩) (meth := k7m3) (c := k7c3) (by decide +kernel) rfl rfl rfl (by decide +kernel)
set_option maxRecDepth 65536 in
theorem w_c24 : (Jvm.Cond.code ({ cls := "java/lang/String", name := "coder", desc := "()B" } : Jvm.MethodName) jdk_42_method_152_code (1 : Nat) (Option.some Jvm.ClassFile.FieldType.byte)).before args0 about1 = true := code_word (m := ⟨7, 8⟩) (meth := k7m8) (c := k7c8) (by decide +kernel) rfl rfl rfl (by decide +kernel)
set_option maxRecDepth 65536 in
theorem w_c25 : (Jvm.Cond.code ({ cls := "java/lang/AbstractStringBuilder", name := "ensureCapacityInternal", desc := "(I)V" } : Jvm.MethodName) jdk_68_method_9_code (3 : Nat) (Option.none : Option Jvm.ClassFile.FieldType)).before args0 about1 = true := code_word (m := ⟨14, 3⟩) (meth := k14m3) (c := k14c3) (by decide +kernel) rfl rfl rfl (by decide +kernel)
set_option maxRecDepth 65536 in
theorem w_c26 : (Jvm.Cond.code ({ cls := "java/lang/AbstractStringBuilder", name := "putStringAt", desc := "(ILjava/lang/String;)V" } : Jvm.MethodName) jdk_68_method_73_code (3 : Nat) (Option.none : Option Jvm.ClassFile.FieldType)).before args0 about1 = true := code_word (m := ⟨14, 9⟩) (meth := k14m9) (c := k14c9) (by decide +kernel) rfl rfl rfl (by decide +kernel)
set_option maxRecDepth 65536 in
theorem w_c27 : (Jvm.Cond.code ({ cls := "java/lang/AbstractStringBuilder", name := "inflateIfNeededFor", desc := "(Ljava/lang/String;)V" } : Jvm.MethodName) jdk_68_method_71_code (2 : Nat) (Option.none : Option Jvm.ClassFile.FieldType)).before args0 about1 = true := code_word (m := ⟨14, 8⟩) (meth := k14m8) (c := k14c8) (by decide +kernel) rfl rfl rfl (by decide +kernel)
set_option maxRecDepth 65536 in
theorem w_c28 : (Jvm.Cond.code ({ cls := "java/lang/String", name := "getBytes", desc := "([BIB)V" } : Jvm.MethodName) jdk_42_method_147_code (4 : Nat) (Option.none : Option Jvm.ClassFile.FieldType)).before args0 about1 = true := code_word (m := ⟨7, 5⟩) (meth := k7m5) (c := k7c5) (by decide +kernel) rfl rfl rfl (by decide +kernel)
set_option maxRecDepth 65536 in
theorem w_c29 : (Jvm.Cond.code ({ cls := "java/lang/StringBuilder", name := "toString", desc := "()Ljava/lang/String;" } : Jvm.MethodName) jdk_67_method_42_code (1 : Nat) (Option.some (Jvm.ClassFile.FieldType.object "java/lang/String"))).before args0 about1 = true := code_word (m := ⟨15, 2⟩) (meth := k15m2) (c := k15c2) (by decide +kernel) rfl rfl rfl (by decide +kernel)
set_option maxRecDepth 65536 in
theorem w_c30 : (Jvm.Cond.code ({ cls := "java/lang/String", name := "<init>", desc := "(Ljava/lang/StringBuilder;)V" } : Jvm.MethodName) jdk_42_method_53_code (2 : Nat) (Option.none : Option Jvm.ClassFile.FieldType)).before args0 about1 = true := code_word (m := ⟨7, 2⟩) (meth := k7m2) (c := k7c2) (by decide +kernel) rfl rfl rfl (by decide +kernel)
set_option maxRecDepth 65536 in
theorem w_c31 : (Jvm.Cond.code ({ cls := "java/lang/String", name := "<init>", desc := "(Ljava/lang/AbstractStringBuilder;Ljava/lang/Void;)V" } : Jvm.MethodName) jdk_42_method_150_code (5 : Nat) (Option.none : Option Jvm.ClassFile.FieldType)).before args0 about1 = true := code_word (m := ⟨7, 7⟩) (meth := k7m7) (c := k7c7) (by decide +kernel) rfl rfl rfl (by decide +kernel)
set_option maxRecDepth 65536 in
theorem w_c32 : (Jvm.Cond.code ({ cls := "java/lang/AbstractStringBuilder", name := "getValue", desc := "()[B" } : Jvm.MethodName) jdk_68_method_64_code (1 : Nat) (Option.some (Jvm.ClassFile.FieldType.array Jvm.ClassFile.FieldType.byte))).before args0 about1 = true := code_word (m := ⟨14, 6⟩) (meth := k14m6) (c := k14c6) (by decide +kernel) rfl rfl rfl (by decide +kernel)
set_option maxRecDepth 65536 in
theorem w_c33 : (Jvm.Cond.code ({ cls := "java/lang/StringBuilder", name := "length", desc := "()I" } : Jvm.MethodName) jdk_67_method_93_code (1 : Nat) (Option.some Jvm.ClassFile.FieldType.int)).before args0 about1 = true := code_word (m := ⟨15, 3⟩) (meth := k15m3) (c := k15c3) (by decide +kernel) rfl rfl rfl (by decide +kernel)
set_option maxRecDepth 65536 in
theorem w_c34 : (Jvm.Cond.code ({ cls := "java/lang/AbstractStringBuilder", name := "length", desc := "()I" } : Jvm.MethodName) jdk_68_method_6_code (1 : Nat) (Option.some Jvm.ClassFile.FieldType.int)).before args0 about1 = true := code_word (m := ⟨14, 2⟩) (meth := k14m2) (c := k14c2) (by decide +kernel) rfl rfl rfl (by decide +kernel)
set_option maxRecDepth 65536 in
theorem w_c35 : (Jvm.Cond.code ({ cls := "java/lang/AbstractStringBuilder", name := "isLatin1", desc := "()Z" } : Jvm.MethodName) jdk_68_method_68_code (1 : Nat) (Option.some Jvm.ClassFile.FieldType.boolean)).before args0 about1 = true := code_word (m := ⟨14, 7⟩) (meth := k14m7) (c := k14c7) (by decide +kernel) rfl rfl rfl (by decide +kernel)
set_option maxRecDepth 65536 in
theorem w_c36 : (Jvm.Cond.code ({ cls := "java/util/Arrays", name := "copyOfRange", desc := "([BII)[B" } : Jvm.MethodName) jdk_65_method_132_code (3 : Nat) (Option.some (Jvm.ClassFile.FieldType.array Jvm.ClassFile.FieldType.byte))).before args0 about1 = true := code_word (m := ⟨17, 3⟩) (meth := k17m3) (c := k17c3) (by decide +kernel) rfl rfl rfl (by decide +kernel)
set_option maxRecDepth 65536 in
theorem w_c37 : (Jvm.Cond.code ({ cls := "java/lang/StringLatin1", name := "equals", desc := "([B[B)Z" } : Jvm.MethodName) jdk_43_method_13_code (3 : Nat) (Option.some Jvm.ClassFile.FieldType.boolean)).before args0 about1 = true := code_word (m := ⟨19, 1⟩) (meth := k19m1) (c := k19c1) (by decide +kernel) rfl rfl rfl (by decide +kernel)
set_option maxRecDepth 65536 in
theorem w_c38 : (Jvm.Cond.code ({ cls := "java/lang/AbstractStringBuilder", name := "newCapacity", desc := "(I)I" } : Jvm.MethodName) jdk_68_method_10_code (6 : Nat) (Option.some Jvm.ClassFile.FieldType.int)).before args0 about1 = true := code_word (m := ⟨14, 4⟩) (meth := k14m4) (c := k14c4) (by decide +kernel) rfl rfl rfl (by decide +kernel)
set_option maxRecDepth 65536 in
theorem w_c39 : (Jvm.Cond.code ({ cls := "jdk/internal/util/ArraysSupport", name := "newLength", desc := "(III)I" } : Jvm.MethodName) jdk_48_method_27_code (4 : Nat) (Option.some Jvm.ClassFile.FieldType.int)).before args0 about1 = true := code_word (m := ⟨20, 1⟩) (meth := k20m1) (c := k20c1) (by decide +kernel) rfl rfl rfl (by decide +kernel)
set_option maxRecDepth 65536 in
theorem w_c40 : (Jvm.Cond.code ({ cls := "java/lang/Math", name := "max", desc := "(II)I" } : Jvm.MethodName) jdk_29_method_65_code (2 : Nat) (Option.some Jvm.ClassFile.FieldType.int)).before args0 about1 = true := code_word (m := ⟨21, 1⟩) (meth := k21m1) (c := k21c1) (by decide +kernel) rfl rfl rfl (by decide +kernel)
set_option maxRecDepth 65536 in
theorem w_c41 : (Jvm.Cond.code ({ cls := "java/util/Arrays", name := "copyOf", desc := "([BI)[B" } : Jvm.MethodName) jdk_65_method_121_code (3 : Nat) (Option.some (Jvm.ClassFile.FieldType.array Jvm.ClassFile.FieldType.byte))).before args0 about1 = true := code_word (m := ⟨17, 1⟩) (meth := k17m1) (c := k17c1) (by decide +kernel) rfl rfl rfl (by decide +kernel)
set_option maxRecDepth 65536 in
theorem w_c42 : (Jvm.Cond.code ({ cls := "java/lang/Math", name := "min", desc := "(II)I" } : Jvm.MethodName) jdk_29_method_69_code (2 : Nat) (Option.some Jvm.ClassFile.FieldType.int)).before args0 about1 = true := code_word (m := ⟨21, 2⟩) (meth := k21m2) (c := k21c2) (by decide +kernel) rfl rfl rfl (by decide +kernel)
set_option maxRecDepth 65536 in
theorem w_c43 : (Jvm.Cond.code ({ cls := "java/util/Arrays", name := "copyOfRangeByte", desc := "([BII)[B" } : Jvm.MethodName) jdk_65_method_133_code (5 : Nat) (Option.some (Jvm.ClassFile.FieldType.array Jvm.ClassFile.FieldType.byte))).before args0 about1 = true := code_word (m := ⟨17, 4⟩) (meth := k17m4) (c := k17c4) (by decide +kernel) rfl rfl rfl (by decide +kernel)
set_option maxRecDepth 65536 in
theorem w_c44 : (Jvm.Cond.code ({ cls := "java/util/Arrays", name := "checkLength", desc := "(II)V" } : Jvm.MethodName) jdk_65_method_131_code (2 : Nat) (Option.none : Option Jvm.ClassFile.FieldType)).before args0 about1 = true := code_word (m := ⟨17, 2⟩) (meth := k17m2) (c := k17c2) (by decide +kernel) rfl rfl rfl (by decide +kernel)
def codes1 : List Jvm.Cond := [Jvm.Cond.code x code maxLocals ret, Jvm.Cond.code ({ cls := "java/lang/String", name := "<init>", desc := "([C)V" } : Jvm.MethodName) jdk_42_method_3_code (2 : Nat) (Option.none : Option Jvm.ClassFile.FieldType), Jvm.Cond.code ({ cls := "java/lang/String", name := "<init>", desc := "([CIILjava/lang/Void;)V" } : Jvm.MethodName) jdk_42_method_149_code (6 : Nat) (Option.none : Option Jvm.ClassFile.FieldType), Jvm.Cond.code ({ cls := "java/lang/Object", name := "<init>", desc := "()V" } : Jvm.MethodName) object_method_1_code (1 : Nat) (Option.none : Option Jvm.ClassFile.FieldType), Jvm.Cond.code ({ cls := "java/lang/StringUTF16", name := "compress", desc := "([CII)[B" } : Jvm.MethodName) jdk_52_method_16_code (6 : Nat) (Option.some (Jvm.ClassFile.FieldType.array Jvm.ClassFile.FieldType.byte)), Jvm.Cond.code ({ cls := "java/lang/StringUTF16", name := "compress", desc := "([CI[BII)I" } : Jvm.MethodName) jdk_52_method_21_code (7 : Nat) (Option.some Jvm.ClassFile.FieldType.int), Jvm.Cond.code ({ cls := "java/lang/StringUTF16", name := "coderFromArrayLen", desc := "([BI)B" } : Jvm.MethodName) jdk_52_method_15_code (2 : Nat) (Option.some Jvm.ClassFile.FieldType.byte), Jvm.Cond.code ({ cls := "com/example/notice_to_drain/noticetodrain/drain/HookOutcome", name := "unstarted", desc := "(Ljava/lang/String;)Lcom/example/notice_to_drain/noticetodrain/drain/HookOutcome;" } : Jvm.MethodName) prog_5_method_3_code (1 : Nat) (Option.some (Jvm.ClassFile.FieldType.object "com/example/notice_to_drain/noticetodrain/drain/HookOutcome")), Jvm.Cond.code ({ cls := "com/example/notice_to_drain/noticetodrain/drain/HookOutcome", name := "<init>", desc := "(Ljava/lang/String;Lcom/example/notice_to_drain/noticetodrain/drain/HookOutcome$Ending;Ljava/lang/Integer;)V" } : Jvm.MethodName) prog_5_method_1_code (4 : Nat) (Option.none : Option Jvm.ClassFile.FieldType), Jvm.Cond.code ({ cls := "com/example/notice_to_drain/noticetodrain/drain/HookOutcome", name := "hook", desc := "()Ljava/lang/String;" } : Jvm.MethodName) prog_5_method_6_code (1 : Nat) (Option.some (Jvm.ClassFile.FieldType.object "java/lang/String")), Jvm.Cond.code ({ cls := "java/lang/String", name := "equals", desc := "(Ljava/lang/Object;)Z" } : Jvm.MethodName) jdk_42_method_66_code (3 : Nat) (Option.some Jvm.ClassFile.FieldType.boolean), Jvm.Cond.code ({ cls := "com/example/notice_to_drain/noticetodrain/drain/HookOutcome", name := "exitStatus", desc := "()Ljava/util/OptionalInt;" } : Jvm.MethodName) prog_5_method_7_code (1 : Nat) (Option.some (Jvm.ClassFile.FieldType.object "java/util/OptionalInt")), Jvm.Cond.code ({ cls := "java/util/OptionalInt", name := "empty", desc := "()Ljava/util/OptionalInt;" } : Jvm.MethodName) jdk_2649_method_2_code (0 : Nat) (Option.some (Jvm.ClassFile.FieldType.object "java/util/OptionalInt")), Jvm.Cond.code ({ cls := "java/util/OptionalInt", name := "isPresent", desc := "()Z" } : Jvm.MethodName) jdk_2649_method_6_code (1 : Nat) (Option.some Jvm.ClassFile.FieldType.boolean), Jvm.Cond.code ({ cls := "com/example/notice_to_drain/noticetodrain/drain/HookOutcome", name := "ok", desc := "()Z" } : Jvm.MethodName) prog_5_method_8_code (1 : Nat) (Option.some Jvm.ClassFile.FieldType.boolean), Jvm.Cond.code ({ cls := "com/example/notice_to_drain/noticetodrain/drain/HookOutcome", name := "timedOut", desc := "()Z" } : Jvm.MethodName) prog_5_method_9_code (1 : Nat) (Option.some Jvm.ClassFile.FieldType.boolean), Jvm.Cond.code ({ cls := "com/example/notice_to_drain/noticetodrain/drain/HookOutcome", name := "exitUnknown", desc := "()Z" } : Jvm.MethodName) prog_5_method_10_code (1 : Nat) (Option.some Jvm.ClassFile.FieldType.boolean), Jvm.Cond.code ({ cls := "com/example/notice_to_drain/noticetodrain/drain/HookOutcome", name := "toString", desc := "()Ljava/lang/String;" } : Jvm.MethodName) prog_5_method_11_code (2 : Nat) (Option.some (Jvm.ClassFile.FieldType.object "java/lang/String")), Jvm.Cond.code ({ cls := "java/lang/Enum", name := "ordinal", desc := "()I" } : Jvm.MethodName) jdk_37_method_2_code (1 : Nat) (Option.some Jvm.ClassFile.FieldType.int), Jvm.Cond.code ({ cls := "java/lang/StringBuilder", name := "<init>", desc := "()V" } : Jvm.MethodName) jdk_67_method_1_code (1 : Nat) (Option.none : Option Jvm.ClassFile.FieldType), Jvm.Cond.code ({ cls := "java/lang/AbstractStringBuilder", name := "<init>", desc := "(I)V" } : Jvm.MethodName) jdk_68_method_2_code (2 : Nat) (Option.none : Option Jvm.ClassFile.FieldType), Jvm.Cond.code ({ cls := "java/lang/StringBuilder", name := "append", desc := "(Ljava/lang/String;)Ljava/lang/StringBuilder;" } : Jvm.MethodName) jdk_67_method_7_code (2 : Nat) (Option.some (Jvm.ClassFile.FieldType.object "java/lang/StringBuilder")), Jvm.Cond.code ({ cls := "java/lang/AbstractStringBuilder", name := "append", desc := "(Ljava/lang/String;)Ljava/lang/AbstractStringBuilder;" } : Jvm.MethodName) jdk_68_method_22_code (3 : Nat) (Option.some (Jvm.ClassFile.FieldType.object "java/lang/AbstractStringBuilder")), Jvm.Cond.code ({ cls := "java/lang/String", name := "length", desc := "()I" } : Jvm.MethodName) jdk_42_method_54_code (1 : Nat) (Option.some Jvm.ClassFile.FieldType.int), Jvm.Cond.code ({ cls := "java/lang/String", name := "coder", desc := "()B" } : Jvm.MethodName) jdk_42_method_152_code (1 : Nat) (Option.some Jvm.ClassFile.FieldType.byte), Jvm.Cond.code ({ cls := "java/lang/AbstractStringBuilder", name := "ensureCapacityInternal", desc := "(I)V" } : Jvm.MethodName) jdk_68_method_9_code (3 : Nat) (Option.none : Option Jvm.ClassFile.FieldType), Jvm.Cond.code ({ cls := "java/lang/AbstractStringBuilder", name := "putStringAt", desc := "(ILjava/lang/String;)V" } : Jvm.MethodName) jdk_68_method_73_code (3 : Nat) (Option.none : Option Jvm.ClassFile.FieldType), Jvm.Cond.code ({ cls := "java/lang/AbstractStringBuilder", name := "inflateIfNeededFor", desc := "(Ljava/lang/String;)V" } : Jvm.MethodName) jdk_68_method_71_code (2 : Nat) (Option.none : Option Jvm.ClassFile.FieldType), Jvm.Cond.code ({ cls := "java/lang/String", name := "getBytes", desc := "([BIB)V" } : Jvm.MethodName) jdk_42_method_147_code (4 : Nat) (Option.none : Option Jvm.ClassFile.FieldType), Jvm.Cond.code ({ cls := "java/lang/StringBuilder", name := "toString", desc := "()Ljava/lang/String;" } : Jvm.MethodName) jdk_67_method_42_code (1 : Nat) (Option.some (Jvm.ClassFile.FieldType.object "java/lang/String")), Jvm.Cond.code ({ cls := "java/lang/String", name := "<init>", desc := "(Ljava/lang/StringBuilder;)V" } : Jvm.MethodName) jdk_42_method_53_code (2 : Nat) (Option.none : Option Jvm.ClassFile.FieldType), Jvm.Cond.code ({ cls := "java/lang/String", name := "<init>", desc := "(Ljava/lang/AbstractStringBuilder;Ljava/lang/Void;)V" } : Jvm.MethodName) jdk_42_method_150_code (5 : Nat) (Option.none : Option Jvm.ClassFile.FieldType), Jvm.Cond.code ({ cls := "java/lang/AbstractStringBuilder", name := "getValue", desc := "()[B" } : Jvm.MethodName) jdk_68_method_64_code (1 : Nat) (Option.some (Jvm.ClassFile.FieldType.array Jvm.ClassFile.FieldType.byte)), Jvm.Cond.code ({ cls := "java/lang/StringBuilder", name := "length", desc := "()I" } : Jvm.MethodName) jdk_67_method_93_code (1 : Nat) (Option.some Jvm.ClassFile.FieldType.int), Jvm.Cond.code ({ cls := "java/lang/AbstractStringBuilder", name := "length", desc := "()I" } : Jvm.MethodName) jdk_68_method_6_code (1 : Nat) (Option.some Jvm.ClassFile.FieldType.int), Jvm.Cond.code ({ cls := "java/lang/AbstractStringBuilder", name := "isLatin1", desc := "()Z" } : Jvm.MethodName) jdk_68_method_68_code (1 : Nat) (Option.some Jvm.ClassFile.FieldType.boolean), Jvm.Cond.code ({ cls := "java/util/Arrays", name := "copyOfRange", desc := "([BII)[B" } : Jvm.MethodName) jdk_65_method_132_code (3 : Nat) (Option.some (Jvm.ClassFile.FieldType.array Jvm.ClassFile.FieldType.byte)), Jvm.Cond.code ({ cls := "java/lang/StringLatin1", name := "equals", desc := "([B[B)Z" } : Jvm.MethodName) jdk_43_method_13_code (3 : Nat) (Option.some Jvm.ClassFile.FieldType.boolean), Jvm.Cond.code ({ cls := "java/lang/AbstractStringBuilder", name := "newCapacity", desc := "(I)I" } : Jvm.MethodName) jdk_68_method_10_code (6 : Nat) (Option.some Jvm.ClassFile.FieldType.int), Jvm.Cond.code ({ cls := "jdk/internal/util/ArraysSupport", name := "newLength", desc := "(III)I" } : Jvm.MethodName) jdk_48_method_27_code (4 : Nat) (Option.some Jvm.ClassFile.FieldType.int), Jvm.Cond.code ({ cls := "java/lang/Math", name := "max", desc := "(II)I" } : Jvm.MethodName) jdk_29_method_65_code (2 : Nat) (Option.some Jvm.ClassFile.FieldType.int), Jvm.Cond.code ({ cls := "java/util/Arrays", name := "copyOf", desc := "([BI)[B" } : Jvm.MethodName) jdk_65_method_121_code (3 : Nat) (Option.some (Jvm.ClassFile.FieldType.array Jvm.ClassFile.FieldType.byte)), Jvm.Cond.code ({ cls := "java/lang/Math", name := "min", desc := "(II)I" } : Jvm.MethodName) jdk_29_method_69_code (2 : Nat) (Option.some Jvm.ClassFile.FieldType.int), Jvm.Cond.code ({ cls := "java/util/Arrays", name := "copyOfRangeByte", desc := "([BII)[B" } : Jvm.MethodName) jdk_65_method_133_code (5 : Nat) (Option.some (Jvm.ClassFile.FieldType.array Jvm.ClassFile.FieldType.byte)), Jvm.Cond.code ({ cls := "java/util/Arrays", name := "checkLength", desc := "(II)V" } : Jvm.MethodName) jdk_65_method_131_code (2 : Nat) (Option.none : Option Jvm.ClassFile.FieldType)]
set_option maxRecDepth 65536 in
theorem codes_eq : words1.filter isCode = codes1 := rfl
theorem w_codes : ∀ c ∈ words1.filter isCode, c.before args0 about1 = true := by
  rw [codes_eq]
  intro c hc
  simp only [codes1, List.mem_cons, List.not_mem_nil, or_false] at hc
  rcases hc with rfl | rfl | rfl | rfl | rfl | rfl | rfl | rfl | rfl | rfl | rfl | rfl | rfl | rfl | rfl | rfl | rfl | rfl | rfl | rfl | rfl | rfl | rfl | rfl | rfl | rfl | rfl | rfl | rfl | rfl | rfl | rfl | rfl | rfl | rfl | rfl | rfl | rfl | rfl | rfl | rfl | rfl | rfl | rfl | rfl
  · exact w_c0
  · exact w_c1
  · exact w_c2
  · exact w_c3
  · exact w_c4
  · exact w_c5
  · exact w_c6
  · exact w_c7
  · exact w_c8
  · exact w_c9
  · exact w_c10
  · exact w_c11
  · exact w_c12
  · exact w_c13
  · exact w_c14
  · exact w_c15
  · exact w_c16
  · exact w_c17
  · exact w_c18
  · exact w_c19
  · exact w_c20
  · exact w_c21
  · exact w_c22
  · exact w_c23
  · exact w_c24
  · exact w_c25
  · exact w_c26
  · exact w_c27
  · exact w_c28
  · exact w_c29
  · exact w_c30
  · exact w_c31
  · exact w_c32
  · exact w_c33
  · exact w_c34
  · exact w_c35
  · exact w_c36
  · exact w_c37
  · exact w_c38
  · exact w_c39
  · exact w_c40
  · exact w_c41
  · exact w_c42
  · exact w_c43
  · exact w_c44
set_option maxRecDepth 65536 in
theorem w_t1 : (words1.take 24).all (fun c => isCode c || c.before args0 about1) = true := by decide +kernel
set_option maxRecDepth 65536 in
theorem w_t2 : ((words1.drop 24).take 24).all (fun c => isCode c || c.before args0 about1) = true := by decide +kernel
set_option maxRecDepth 65536 in
theorem w_t3 : (((words1.drop 24).drop 24).take 24).all (fun c => isCode c || c.before args0 about1) = true := by decide +kernel
set_option maxRecDepth 65536 in
theorem w_t4 : ((((words1.drop 24).drop 24).drop 24).take 24).all (fun c => isCode c || c.before args0 about1) = true := by decide +kernel
set_option maxRecDepth 65536 in
theorem w_t5 : (((((words1.drop 24).drop 24).drop 24).drop 24).take 24).all (fun c => isCode c || c.before args0 about1) = true := by decide +kernel
set_option maxRecDepth 65536 in
theorem w_t6 : ((((((words1.drop 24).drop 24).drop 24).drop 24).drop 24).take 24).all (fun c => isCode c || c.before args0 about1) = true := by decide +kernel
set_option maxRecDepth 65536 in
theorem w_t7 : (((((((words1.drop 24).drop 24).drop 24).drop 24).drop 24).drop 24).take 24).all (fun c => isCode c || c.before args0 about1) = true := by decide +kernel
set_option maxRecDepth 65536 in
theorem w_t8 : ((((((((words1.drop 24).drop 24).drop 24).drop 24).drop 24).drop 24).drop 24).take 24).all (fun c => isCode c || c.before args0 about1) = true := by decide +kernel
set_option maxRecDepth 65536 in
theorem w_t9 : (((((((((words1.drop 24).drop 24).drop 24).drop 24).drop 24).drop 24).drop 24).drop 24).take 24).all (fun c => isCode c || c.before args0 about1) = true := by decide +kernel
set_option maxRecDepth 65536 in
theorem w_t10 : ((((((((((words1.drop 24).drop 24).drop 24).drop 24).drop 24).drop 24).drop 24).drop 24).drop 24).take 24).all (fun c => isCode c || c.before args0 about1) = true := by decide +kernel
set_option maxRecDepth 65536 in
theorem w_t11 : ((((((((((words1.drop 24).drop 24).drop 24).drop 24).drop 24).drop 24).drop 24).drop 24).drop 24).drop 24).all (fun c => isCode c || c.before args0 about1) = true := by decide +kernel
theorem w_tables : (allAtoms (Jvm.Cond.code x code maxLocals ret :: tables_1)).before args0 about1 = true := by
  rw [allAtoms_all]
  show words1.all (fun c => c.before args0 about1) = true
  refine all_split ?_ w_codes
  rw [← List.take_append_drop 24 words1, List.all_append, w_t1, ← List.take_append_drop 24 (words1.drop 24), List.all_append, w_t2, ← List.take_append_drop 24 ((words1.drop 24).drop 24), List.all_append, w_t3, ← List.take_append_drop 24 (((words1.drop 24).drop 24).drop 24), List.all_append, w_t4, ← List.take_append_drop 24 ((((words1.drop 24).drop 24).drop 24).drop 24), List.all_append, w_t5, ← List.take_append_drop 24 (((((words1.drop 24).drop 24).drop 24).drop 24).drop 24), List.all_append, w_t6, ← List.take_append_drop 24 ((((((words1.drop 24).drop 24).drop 24).drop 24).drop 24).drop 24), List.all_append, w_t7, ← List.take_append_drop 24 (((((((words1.drop 24).drop 24).drop 24).drop 24).drop 24).drop 24).drop 24), List.all_append, w_t8, ← List.take_append_drop 24 ((((((((words1.drop 24).drop 24).drop 24).drop 24).drop 24).drop 24).drop 24).drop 24), List.all_append, w_t9, ← List.take_append_drop 24 (((((((((words1.drop 24).drop 24).drop 24).drop 24).drop 24).drop 24).drop 24).drop 24).drop 24), List.all_append, w_t10, w_t11]
  rfl
set_option maxRecDepth 65536 in
theorem w_rest : rest_1_c.before args0 about1 = true := by decide +kernel
set_option maxRecDepth 65536 in
theorem w_case : (Jvm.Cond.and given_1 narrow_1).before args0 about1 = true := by decide +kernel
set_option maxRecDepth 65536 in
theorem w_consts : constsHeld consts_1 about1 := Jvm.Lit.constsHeldB_iff.mp (by decide +kernel)
theorem w_applies : (headSpec (Jvm.Cond.code x code maxLocals ret :: tables_1) room_1).applies x e0.platform about1 = true :=
  (Spec.applies_iff w_frames).mpr ⟨w_running, w_runnable, w_alone, w_named, w_hears, w_ripe, w_room, w_tables⟩
theorem atStart : AtStart classFile x code maxLocals ret World_1 tables_1 room_1 Calls_1 rest_1 Pre_1 launch0 p0 e0 about1 theMethod args0 below0 :=
  ⟨lists_1, trivial, launch0.admits_env _ _ _, launch0.least_env, fairChoices_fair.cas, fairChoices_fair.clock, w_frames, w_args, w_heap, w_applies, ⟨w_consts, trivial⟩, w_rest, w_case⟩
end start1
theorem witness_1 : WitnessClaimed_1 := ⟨start1.p0, start1.e0, start1.about1, start1.theMethod, start1.args0, start1.below0, start1.atStart⟩
end Jvm.Pilot.@@N@@
