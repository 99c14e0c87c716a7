import JvmDerived
import JvmDerived.Pilot.@@N@@Statement
import JvmDerived.Pilot.@@N@@Code
set_option linter.unusedVariables false
set_option linter.unusedSimpArgs false
/- laws to paste: Road.eqW, Road.codOf, Road.low_at, shr0, narrow_ch (cut by pick.py; bodies as the Statement names them) -/
namespace Jvm.Pilot.@@N@@
namespace StrChars
open Jvm Sem ClassFile Op Lib Jvm.Stand Jvm.Free.XT Jvm.Free.ALB Jvm.Free.JM Jvm.Free
open Jvm.Lib.Cold (StaticIs)
/-- a char array whose places are chars -/
def Ch (a : Addr) (A : Cell) (U : State) : Prop := Arr .char a A U ∧ Typed .char A
theorem Ch.mv {a : Addr} {A : Cell} {U U' : State} (h : Ch a A U) (hal : U.vm.Alike U'.vm) (hh : U'.heap = U.heap) : Ch a A U' := ⟨h.1.mv hal hh, h.2⟩
theorem Ch.keep {a : Addr} {A : Cell} {U U' : State} (h : Ch a A U) (hal : U.vm.Alike U'.vm) (hk : U'.heap[a]? = some A) : Ch a A U' := ⟨h.1.keep hal hk, h.2⟩
/-- what place i of a char[]'s cell holds -/
def cv (A : Cell) (i : Nat) : Int32 := match A.slots[i]? with | some (.int x) => x | _ => 0
theorem Ch.get {a : Addr} {A : Cell} {U : State} (h : Ch a A U) {i : Nat} (hi : i < A.slots.size) : A.slots[i]? = some (.int (cv A i)) := by
  have e := Array.getElem?_eq_getElem hi
  have f := h.2 i _ e
  unfold cv; rw [e]
  generalize A.slots[i] = v at f
  cases v <;> simp [fits] at f ⊢
/-- the byte that i2b leaves of a char -/
def lo8 (x : Int32) : Int32 := x.toInt8.toInt32
theorem fits_lo8 (y : Int32) : fits .byte (.int (lo8 y)) = true := by
  have h1 := y.toInt8.le_toInt
  have h2 := y.toInt8.toInt_lt
  simp only [lo8, fits, Bool.and_eq_true, decide_eq_true_eq, Int32.le_iff_toInt_le, Int8.toInt_toInt32, show (-128 : Int32).toInt = -128 from by decide, show (127 : Int32).toInt = 127 from by decide]
  omega
/-- A' is A but that each place j of lo .. hi - 1 holds f j -/
def Laid (A A' : Cell) (lo hi : Nat) (f : Nat → Value) : Prop := A'.cls = A.cls ∧ A'.vm = A.vm ∧ A'.slots.size = A.slots.size ∧ ∀ i, A'.slots[i]? = if lo ≤ i ∧ i < hi then some (f i) else A.slots[i]?
theorem Laid.zero (A : Cell) (lo : Nat) (f : Nat → Value) : Laid A A lo (lo + 0) f := ⟨rfl, rfl, rfl, fun i => by rw [if_neg (by omega)]⟩
theorem Laid.step {A Ak : Cell} {lo k : Nat} {f : Nat → Value} {v : Value} (h : Laid A Ak lo k f) (hlo : lo ≤ k) (hk : k < Ak.slots.size) (hv : v = f k) : Laid A (Ak.setSlot k v) lo (k + 1) f := by
  refine ⟨h.1, h.2.1, by simpa [Cell.setSlot] using h.2.2.1, fun i => ?_⟩
  by_cases e : k = i
  · subst e; rw [Cell.slots_setSlot_self v hk, if_pos (by omega), hv]
  · rw [Cell.slots_setSlot_ne v e, h.2.2.2 i]
    by_cases q : lo ≤ i ∧ i < k
    · rw [if_pos q, if_pos (by omega)]
    · rw [if_neg q, if_neg (by omega)]
def U16 : String := "java/lang/StringUTF16"
namespace Cmp5
def yN : MethodName := ⟨"java/lang/StringUTF16", "compress", "([CI[BII)I"⟩
abbrev yB : ByteArray := jdk_52_method_21_code
theorem d0 : decode yB 0 = .ok (.iconst 0, 1) := by decide +kernel
theorem d1 : decode yB 1 = .ok (.istore 5, 2) := by decide +kernel
theorem d3 : decode yB 3 = .ok (.iload 5, 2) := by decide +kernel
theorem d5 : decode yB 5 = .ok (.iload 4, 2) := by decide +kernel
theorem d7 : decode yB 7 = .ok (.if_icmp (.ge) 37, 3) := by decide +kernel
theorem d10 : decode yB 10 = .ok (.aload_n 0, 1) := by decide +kernel
theorem d11 : decode yB 11 = .ok (.iload_n 1, 1) := by decide +kernel
theorem d12 : decode yB 12 = .ok (.caload, 1) := by decide +kernel
theorem d13 : decode yB 13 = .ok (.istore 6, 2) := by decide +kernel
theorem d15 : decode yB 15 = .ok (.iload 6, 2) := by decide +kernel
theorem d17 : decode yB 17 = .ok (.sipush 255, 3) := by decide +kernel
theorem d20 : decode yB 20 = .ok (.if_icmp (.le) 6, 3) := by decide +kernel
theorem d26 : decode yB 26 = .ok (.aload_n 2, 1) := by decide +kernel
theorem d27 : decode yB 27 = .ok (.iload_n 3, 1) := by decide +kernel
theorem d28 : decode yB 28 = .ok (.iload 6, 2) := by decide +kernel
theorem d30 : decode yB 30 = .ok (.i2b, 1) := by decide +kernel
theorem d31 : decode yB 31 = .ok (.bastore, 1) := by decide +kernel
theorem d32 : decode yB 32 = .ok (.iinc 1 1, 3) := by decide +kernel
theorem d35 : decode yB 35 = .ok (.iinc 3 1, 3) := by decide +kernel
theorem d38 : decode yB 38 = .ok (.iinc 5 1, 3) := by decide +kernel
theorem d41 : decode yB 41 = .ok (.goto (-38), 3) := by decide +kernel
theorem d44 : decode yB 44 = .ok (.iload 4, 2) := by decide +kernel
theorem d46 : decode yB 46 = .ok (.ireturn, 1) := by decide +kernel
def site : List Cond := []
def tab : Cond := tabOf yN yB 7 (some .int) site
def P (b : Addr) (A : Cell) (d : Addr) (B : Cell) (o q len : Nat) (args : Array Value) (s : State) : Prop := args = #[.ref b, .int (Int32.ofNat o), .ref d, .int (Int32.ofNat q), .int (Int32.ofNat len)] ∧ Ch b A s ∧ Arr .byte d B s ∧ b ≠ d ∧ o + len ≤ A.slots.size ∧ q + len ≤ B.slots.size ∧ ∀ i, i < len → ¬ 255 < cv A (o + i)
def E (b : Addr) (A : Cell) (d : Addr) (B : Cell) (o q len : Nat) (r : Option Value) (s u : State) : Prop := r = some (.int (Int32.ofNat len)) ∧ ∃ B', Put d B' s u ∧ Laid B B' q (q + len) (fun j => Value.int (lo8 (cv A (o + (j - q)))))
/-- no char of the range above 255: len; the places written hold each char's low byte -/
theorem law (l : Launch) (b : Addr) (A : Cell) (d : Addr) (B : Cell) (o q len : Nat) : Law l yN 5 5 0 0 yB 7 (some .int) site (P b A d B o q len) (E b A d B o q len) (copyLocs d q len) 0 0 := by
  refine Law.of_walk (plainFor_of_name (by decide +kernel)) (by decide +kernel) (by decide +kernel) (by decide) (fun _ _ h => by rw [h.1]; rfl) (fun _ U U' hal hh h => ⟨h.1, h.2.1.mv hal hh, h.2.2.1.mv hal hh, h.2.2.2⟩) (fun r U U' V V' h1 hal h2 h => ⟨h.1, h.2.elim fun B' q => ⟨B', q.1.mv h1 h2, q.2⟩⟩) ?_
  intro p e s m args below meth c s₁ X0 hexec hbytes hml hret hlk hnm hown hh0 W hP
  obtain ⟨rfl, hA, hB, hne, l1, l2, hp⟩ := hP
  have c1 : Steps p.tables e below (s₁.setTop (entryFrame m #[.ref b, .int (Int32.ofNat o), .ref d, .int (Int32.ofNat q), .int (Int32.ofNat len)] 7)) (s₁.setTop (mkF m 0 #[.val (.ref b), .val (.int (Int32.ofNat o)), .val (.ref d), .val (.int (Int32.ofNat q)), .val (.int (Int32.ofNat len)), .unset, .unset] [])) := entry rfl
  have hA0 := hA.1.mv X0.warmed.alike hh0
  have hB0 := hB.mv X0.warmed.alike hh0
  have a31 := hA.1.2.2.2
  have c2 : Steps p.tables e below (s₁.setTop (entryFrame m #[.ref b, .int (Int32.ofNat o), .ref d, .int (Int32.ofNat q), .int (Int32.ofNat len)] 7)) (s₁.setTop (mkF m 3 #[.val (.ref b), .val (.int (Int32.ofNat o)), .val (.ref d), .val (.int (Int32.ofNat q)), .val (.int (Int32.ofNat len)), .val (.int 0), .unset] [])) := c1.trans (by
    refine iconstV X0.here hexec rfl 0 (hb hbytes d0) (by decide) ?_
    refine XS.istore X0.here hexec rfl (hb hbytes d1) rfl rfl ?_
    exact Steps.refl _)
  have loop : ∀ (r i : Nat), i + r = len → ∀ (z : Slot), (z = .unset ∨ ∃ w, z = .val w ∧ w.category = 1) → ∀ (Tl : State) (Bk : Cell), Stand p l e { frames := 0, locals := 0, cells := 0, slots := 0 } s m #[.ref b, .int (Int32.ofNat o), .ref d, .int (Int32.ofNat q), .int (Int32.ofNat len)] below meth c Tl ([] ++ copyLocs d q i) 0 0 → Put d Bk s₁ Tl → Laid B Bk q (q + i) (fun j => Value.int (lo8 (cv A (o + (j - q))))) →
      Steps p.tables e below (s₁.setTop (entryFrame m #[.ref b, .int (Int32.ofNat o), .ref d, .int (Int32.ofNat q), .int (Int32.ofNat len)] 7)) (Tl.setTop (mkF m 3 #[.val (.ref b), .val (.int (Int32.ofNat (o + i))), .val (.ref d), .val (.int (Int32.ofNat (q + i))), .val (.int (Int32.ofNat len)), .val (.int (Int32.ofNat i)), z] [])) → ∃ (T' : State) (B' : Cell) (z' : Slot), Stand p l e { frames := 0, locals := 0, cells := 0, slots := 0 } s m #[.ref b, .int (Int32.ofNat o), .ref d, .int (Int32.ofNat q), .int (Int32.ofNat len)] below meth c T' ([] ++ copyLocs d q len) 0 0 ∧ Put d B' s₁ T' ∧ Laid B B' q (q + len) (fun j => Value.int (lo8 (cv A (o + (j - q))))) ∧
      Steps p.tables e below (s₁.setTop (entryFrame m #[.ref b, .int (Int32.ofNat o), .ref d, .int (Int32.ofNat q), .int (Int32.ofNat len)] 7)) (T'.setTop (mkF m 3 #[.val (.ref b), .val (.int (Int32.ofNat (o + len))), .val (.ref d), .val (.int (Int32.ofNat (q + len))), .val (.int (Int32.ofNat len)), .val (.int (Int32.ofNat len)), z'] [])) := by
    intro r
    induction r with
    | zero =>
      intro i hi z hz Tl Bk Xl pl fl cl
      have hil : i = len := by omega
      rw [hil] at Xl fl cl
      exact ⟨Tl, Bk, z, Xl, pl, fl, cl⟩
    | succ r ih =>
      intro i hi z hz Tl Bk Xl pl fl cl
      have all := X0.warmed.alike.symm.trans Xl.warmed.alike
      have hAl := hA0.keep all (pl.other hne hA0.1)
      have hBk := hB0.like all pl.1 fl.1 fl.2.1 fl.2.2.1
      have hlt : q + i < Bk.slots.size := by rw [fl.2.2.1]; omega
      have c3 : Steps p.tables e below (s₁.setTop (entryFrame m #[.ref b, .int (Int32.ofNat o), .ref d, .int (Int32.ofNat q), .int (Int32.ofNat len)] 7)) (Tl.setTop (mkF m 12 #[.val (.ref b), .val (.int (Int32.ofNat (o + i))), .val (.ref d), .val (.int (Int32.ofNat (q + i))), .val (.int (Int32.ofNat len)), .val (.int (Int32.ofNat i)), z] [.int (Int32.ofNat (o + i)), .ref b])) := cl.trans (by
        refine XS.iload Xl.here hexec rfl (hb hbytes d3) rfl ?_
        refine XS.iload Xl.here hexec rfl (hb hbytes d5) rfl ?_
        refine XS.icmpNo Xl.here hexec rfl (hb hbytes d7) rfl (ii_ge_f (lt32 (by omega) (by omega))) ?_
        refine XS.aloadN Xl.here hexec rfl (hb hbytes d10) rfl rfl ?_
        refine XS.iloadN Xl.here hexec rfl (hb hbytes d11) rfl ?_
        exact Steps.refl _)
      have c4 : Steps p.tables e below (s₁.setTop (entryFrame m #[.ref b, .int (Int32.ofNat o), .ref d, .int (Int32.ofNat q), .int (Int32.ofNat len)] 7)) (Tl.setTop (mkF m 13 #[.val (.ref b), .val (.int (Int32.ofNat (o + i))), .val (.ref d), .val (.int (Int32.ofNat (q + i))), .val (.int (Int32.ofNat len)), .val (.int (Int32.ofNat i)), z] [.int (cv A (o + i))])) := c3.trans (by
        refine Xl.aget hexec hAl rfl (hA.get (i := o + i) (by omega)) rfl rfl (hb hbytes d12) ?_
        exact Steps.refl _)
      have c5 : Steps p.tables e below (s₁.setTop (entryFrame m #[.ref b, .int (Int32.ofNat o), .ref d, .int (Int32.ofNat q), .int (Int32.ofNat len)] 7)) (Tl.setTop (mkF m 15 #[.val (.ref b), .val (.int (Int32.ofNat (o + i))), .val (.ref d), .val (.int (Int32.ofNat (q + i))), .val (.int (Int32.ofNat len)), .val (.int (Int32.ofNat i)), .val (.int (cv A (o + i)))] [])) := c4.trans (by
        refine XS.istoreS Xl.here hexec rfl (hb hbytes d13) rfl rfl hz ?_
        exact Steps.refl _)
      have c6 : Steps p.tables e below (s₁.setTop (entryFrame m #[.ref b, .int (Int32.ofNat o), .ref d, .int (Int32.ofNat q), .int (Int32.ofNat len)] 7)) (Tl.setTop (mkF m 31 #[.val (.ref b), .val (.int (Int32.ofNat (o + i))), .val (.ref d), .val (.int (Int32.ofNat (q + i))), .val (.int (Int32.ofNat len)), .val (.int (Int32.ofNat i)), .val (.int (cv A (o + i)))] [.int (lo8 (cv A (o + i))), .int (Int32.ofNat (q + i)), .ref d])) := c5.trans (by
        refine XS.iload Xl.here hexec rfl (hb hbytes d15) rfl ?_
        refine sipushV Xl.here hexec rfl 255 (hb hbytes d17) (by decide) ?_
        refine XS.icmpYes Xl.here hexec rfl (pc0 := 20) rfl (hb hbytes d20) rfl (ii_le_t (hp i (by omega))) (by decide) rfl ?_
        refine XS.aloadN Xl.here hexec rfl (hb hbytes d26) rfl rfl ?_
        refine XS.iloadN Xl.here hexec rfl (hb hbytes d27) rfl ?_
        refine XS.iload Xl.here hexec rfl (hb hbytes d28) rfl ?_
        refine i2b Xl.here hexec rfl (hb hbytes d30) rfl ?_
        exact Steps.refl _)
      obtain ⟨T7, X7, p7, st7⟩ := Xl.aput hexec hBk rfl hlt rfl (fits_lo8 (cv A (o + i))) (g := (mkF m 31 #[.val (.ref b), .val (.int (Int32.ofNat (o + i))), .val (.ref d), .val (.int (Int32.ofNat (q + i))), .val (.int (Int32.ofNat len)), .val (.int (Int32.ofNat i)), .val (.int (cv A (o + i)))] [.int (lo8 (cv A (o + i))), .int (Int32.ofNat (q + i)), .ref d])) rfl (rest := []) rfl (hb hbytes d31)
      have c8 : Steps p.tables e below (s₁.setTop (entryFrame m #[.ref b, .int (Int32.ofNat o), .ref d, .int (Int32.ofNat q), .int (Int32.ofNat len)] 7)) (T7.setTop (mkF m 32 #[.val (.ref b), .val (.int (Int32.ofNat (o + i))), .val (.ref d), .val (.int (Int32.ofNat (q + i))), .val (.int (Int32.ofNat len)), .val (.int (Int32.ofNat i)), .val (.int (cv A (o + i)))] [])) := c6.trans (st7 _ (Steps.refl _))
      have c9 : Steps p.tables e below (s₁.setTop (entryFrame m #[.ref b, .int (Int32.ofNat o), .ref d, .int (Int32.ofNat q), .int (Int32.ofNat len)] 7)) (T7.setTop (mkF m 3 #[.val (.ref b), .val (.int (Int32.ofNat (o + i) + 1)), .val (.ref d), .val (.int (Int32.ofNat (q + i) + 1)), .val (.int (Int32.ofNat len)), .val (.int (Int32.ofNat i + 1)), .val (.int (cv A (o + i)))] [])) := c8.trans (by
        refine iincV X7.here hexec rfl 1 (hb hbytes d32) (by decide) rfl rfl ?_
        refine iincV X7.here hexec rfl 1 (hb hbytes d35) (by decide) rfl rfl ?_
        refine iincV X7.here hexec rfl 1 (hb hbytes d38) (by decide) rfl rfl ?_
        refine XS.goto X7.here hexec rfl (pc0 := 41) rfl (hb hbytes d41) (by decide) rfl ?_
        exact Steps.refl _)
      have c10 : Steps p.tables e below (s₁.setTop (entryFrame m #[.ref b, .int (Int32.ofNat o), .ref d, .int (Int32.ofNat q), .int (Int32.ofNat len)] 7)) (T7.setTop (mkF m 3 #[.val (.ref b), .val (.int (Int32.ofNat (o + (i + 1)))), .val (.ref d), .val (.int (Int32.ofNat (q + (i + 1)))), .val (.int (Int32.ofNat len)), .val (.int (Int32.ofNat (i + 1))), .val (.int (cv A (o + i)))] [])) := by
        have := c9
        rw [succ32, succ32, succ32] at this
        exact this
      exact ih (i + 1) (by omega) _ (Or.inr ⟨_, rfl, rfl⟩) T7 _ (by rw [copyLocs_step, ← List.append_assoc]; exact X7) (pl.trans p7) (fl.step (by omega) hlt (by simp)) c10
  obtain ⟨T9, B9, z9, X9, p9, f9, g9⟩ := loop len 0 (by omega) .unset (Or.inl rfl) s₁ B (by simpa [copyLocs] using X0) ⟨hB0.1, fun _ _ => rfl, rfl⟩ (Laid.zero _ _ _) c2
  have c11 : Steps p.tables e below (s₁.setTop (entryFrame m #[.ref b, .int (Int32.ofNat o), .ref d, .int (Int32.ofNat q), .int (Int32.ofNat len)] 7)) (T9.setTop (mkF m 46 #[.val (.ref b), .val (.int (Int32.ofNat (o + len))), .val (.ref d), .val (.int (Int32.ofNat (q + len))), .val (.int (Int32.ofNat len)), .val (.int (Int32.ofNat len)), z9] [.int (Int32.ofNat len)])) := g9.trans (by
    refine XS.iload X9.here hexec rfl (hb hbytes d3) rfl ?_
    refine XS.iload X9.here hexec rfl (hb hbytes d5) rfl ?_
    refine XS.icmpYes X9.here hexec rfl (pc0 := 7) rfl (hb hbytes d7) rfl (ii_ge_t (nlt32 (by omega) (Nat.le_refl _))) (by decide) rfl ?_
    refine XS.iload X9.here hexec rfl (hb hbytes d44) rfl ?_
    exact Steps.refl _)
  exact ⟨T9, some (.int (Int32.ofNat len)), _, _, _, X9, by simp, rfl, rfl, (fun h => by cases h), ⟨rfl, B9, p9.from hh0, f9⟩, fun fs hl => c11.trans (X9.ireturnOut hexec hret rfl (Or.inl rfl) (hb hbytes d46) hl)⟩
end Cmp5
namespace Cmp3
def yN : MethodName := ⟨"java/lang/StringUTF16", "compress", "([CII)[B"⟩
abbrev yB : ByteArray := jdk_52_method_16_code
theorem d0 : decode yB 0 = .ok (.iload_n 2, 1) := by decide +kernel
theorem d1 : decode yB 1 = .ok (.newarray .byte, 2) := by decide +kernel
theorem d3 : decode yB 3 = .ok (.astore_n 3, 1) := by decide +kernel
theorem d4 : decode yB 4 = .ok (.aload_n 0, 1) := by decide +kernel
theorem d5 : decode yB 5 = .ok (.iload_n 1, 1) := by decide +kernel
theorem d6 : decode yB 6 = .ok (.aload_n 3, 1) := by decide +kernel
theorem d7 : decode yB 7 = .ok (.iconst 0, 1) := by decide +kernel
theorem d8 : decode yB 8 = .ok (.iload_n 2, 1) := by decide +kernel
theorem d9 : decode yB 9 = .ok (.invokestatic 115, 3) := by decide +kernel
theorem d12 : decode yB 12 = .ok (.istore 4, 2) := by decide +kernel
theorem d14 : decode yB 14 = .ok (.iload 4, 2) := by decide +kernel
theorem d16 : decode yB 16 = .ok (.iload_n 2, 1) := by decide +kernel
theorem d17 : decode yB 17 = .ok (.if_icmp (.eq) 40, 3) := by decide +kernel
theorem d57 : decode yB 57 = .ok (.aload_n 3, 1) := by decide +kernel
theorem d58 : decode yB 58 = .ok (.areturn, 1) := by decide +kernel
def site : List Cond := [.arrayClass .byte, Cmp5.tab] ++ staticW U16 115 Cmp5.yN
def tab : Cond := tabOf yN yB 6 (some (.array .byte)) site
def P (b : Addr) (A : Cell) (o len : Nat) (args : Array Value) (s : State) : Prop := args = #[.ref b, .int (Int32.ofNat o), .int (Int32.ofNat len)] ∧ Ch b A s ∧ o + len ≤ A.slots.size ∧ len ≤ 536870912 ∧ ∀ i, i < len → ¬ 255 < cv A (o + i)
def E (b : Addr) (A : Cell) (o len : Nat) (r : Option Value) (s u : State) : Prop := NewArr .byte "[B" len (fun j => .int (lo8 (cv A (o + j)))) r s u ∧ u.heap.size = s.heap.size + 1
/-- no char of the range above 255: a new byte[] of their low bytes -/
theorem law (l : Launch) (b : Addr) (A : Cell) (o len : Nat) : Law l yN 3 3 1 18 yB 6 (some (.array .byte)) site (P b A o len) (E b A o len) [] 1 len := by
  refine Law.of_walk (plainFor_of_name (by decide +kernel)) (by decide +kernel) (by decide +kernel) (by decide) (fun _ _ h => by rw [h.1]; rfl) (fun _ U U' hal hh h => ⟨h.1, h.2.1.mv hal hh, h.2.2⟩) (fun r U U' V V' h1 hal h2 h => ⟨NewArr.mv r U U' V V' h1 hal h2 h.1, by rw [h1, h2]; exact h.2⟩) ?_
  intro p e s m args below meth c s₁ X0 hexec hbytes hml hret hlk hnm hown hh0 W hP
  obtain ⟨rfl, hA, l1, l2, hp⟩ := hP
  have a31 := hA.1.2.2.2
  have c1 : Steps p.tables e below (s₁.setTop (entryFrame m #[.ref b, .int (Int32.ofNat o), .int (Int32.ofNat len)] 6)) (s₁.setTop (mkF m 0 #[.val (.ref b), .val (.int (Int32.ofNat o)), .val (.int (Int32.ofNat len)), .unset, .unset, .unset] [])) := entry rfl
  have c2 : Steps p.tables e below (s₁.setTop (entryFrame m #[.ref b, .int (Int32.ofNat o), .int (Int32.ofNat len)] 6)) (s₁.setTop (mkF m 1 #[.val (.ref b), .val (.int (Int32.ofNat o)), .val (.int (Int32.ofNat len)), .unset, .unset, .unset] [.int (Int32.ofNat len)])) := c1.trans (by
    refine XS.iloadN X0.here hexec rfl (hb hbytes d0) rfl ?_
    exact Steps.refl _)
  obtain ⟨T3, B3, X3, ba3, bs3, bv3, bh3, bf3, st3⟩ := X0.anew hexec (atype := .byte) (wk W (.arrayClass .byte)) rfl (by show len * 1 ≤ _; omega) (by omega) (g := (mkF m 1 #[.val (.ref b), .val (.int (Int32.ofNat o)), .val (.int (Int32.ofNat len)), .unset, .unset, .unset] [.int (Int32.ofNat len)])) rfl (hb hbytes d1) (rest := []) rfl (Nat.le_refl _) (by show 0 + len ≤ len; omega)
  rw [hh0] at ba3 st3
  have kp3 : XT.Kept s T3 := (XT.Kept.of_eq hh0).push bh3
  have hA3 := hA.keep X3.warmed.alike (kp3 _ _ hA.1.1)
  have hne : b ≠ s.heap.size := hA.1.ne
  have c4 : Steps p.tables e below (s₁.setTop (entryFrame m #[.ref b, .int (Int32.ofNat o), .int (Int32.ofNat len)] 6)) (T3.setTop (mkF m 3 #[.val (.ref b), .val (.int (Int32.ofNat o)), .val (.int (Int32.ofNat len)), .unset, .unset, .unset] [.ref s.heap.size])) := c2.trans (st3 _ (Steps.refl _))
  have c5 : Steps p.tables e below (s₁.setTop (entryFrame m #[.ref b, .int (Int32.ofNat o), .int (Int32.ofNat len)] 6)) (T3.setTop (mkF m 9 #[.val (.ref b), .val (.int (Int32.ofNat o)), .val (.int (Int32.ofNat len)), .val (.ref s.heap.size), .unset, .unset] [.int (Int32.ofNat len), .int 0, .ref s.heap.size, .int (Int32.ofNat o), .ref b])) := c4.trans (by
    refine XS.astoreN X3.here hexec rfl (hb hbytes d3) rfl rfl rfl ?_
    refine XS.aloadN X3.here hexec rfl (hb hbytes d4) rfl rfl ?_
    refine XS.iloadN X3.here hexec rfl (hb hbytes d5) rfl ?_
    refine XS.aloadN X3.here hexec rfl (hb hbytes d6) rfl rfl ?_
    refine iconstV X3.here hexec rfl 0 (hb hbytes d7) (by decide) ?_
    refine XS.iloadN X3.here hexec rfl (hb hbytes d8) rfl ?_
    exact Steps.refl _)
  obtain ⟨v6, T6, X6, E6, g6⟩ := X3.callS hexec (Cmp5.law l b A s.heap.size B3 o 0 len) hown (wks W (staticW U16 115 Cmp5.yN)) (wk W Cmp5.tab) (W := 0) (Nat.le_of_ble_eq_true rfl) (Nat.le_of_ble_eq_true rfl) (Nat.le_refl _) (by show 0 + len + 0 ≤ len; omega) (g := (mkF m 9 #[.val (.ref b), .val (.int (Int32.ofNat o)), .val (.int (Int32.ofNat len)), .val (.ref s.heap.size), .unset, .unset] [.int (Int32.ofNat len), .int (Int32.ofNat 0), .ref s.heap.size, .int (Int32.ofNat o), .ref b])) rfl (by rw [hml]; rfl) c5 (argsL := [.ref b, .int (Int32.ofNat o), .ref s.heap.size, .int (Int32.ofNat 0), .int (Int32.ofNat len)]) (rest := []) rfl rfl (by show 2 * 0 + 0 ≤ _; decide) (hb hbytes d9) (⟨rfl, hA3, ba3, hne, l1, by rw [bs3]; simp, hp⟩)
  obtain ⟨rfl, B6, p6, f6⟩ := E6
  have c7 : Steps p.tables e below (s₁.setTop (entryFrame m #[.ref b, .int (Int32.ofNat o), .int (Int32.ofNat len)] 6)) (T6.setTop (mkF m 12 #[.val (.ref b), .val (.int (Int32.ofNat o)), .val (.int (Int32.ofNat len)), .val (.ref s.heap.size), .unset, .unset] [.int (Int32.ofNat len)])) := g6
  have c8 : Steps p.tables e below (s₁.setTop (entryFrame m #[.ref b, .int (Int32.ofNat o), .int (Int32.ofNat len)] 6)) (T6.setTop (mkF m 58 #[.val (.ref b), .val (.int (Int32.ofNat o)), .val (.int (Int32.ofNat len)), .val (.ref s.heap.size), .val (.int (Int32.ofNat len)), .unset] [.ref s.heap.size])) := c7.trans (by
    refine XS.istore X6.here hexec rfl (hb hbytes d12) rfl rfl ?_
    refine XS.iload X6.here hexec rfl (hb hbytes d14) rfl ?_
    refine XS.iloadN X6.here hexec rfl (hb hbytes d16) rfl ?_
    refine XS.icmpYes X6.here hexec rfl (pc0 := 17) rfl (hb hbytes d17) rfl (ii_eq_t rfl) (by decide) rfl ?_
    refine XS.aloadN X6.here hexec rfl (hb hbytes d57) rfl rfl ?_
    exact Steps.refl _)
  have X8 := X6.wide (L' := []) (cells' := 1) (slots' := len) (fun x hx hlt => by
    simp only [List.nil_append, copyLocs, List.mem_map, List.mem_range] at hx
    obtain ⟨i, -, rfl⟩ := hx
    exact absurd hlt (Nat.lt_irrefl _)) (Nat.le_refl _) (by omega)
  exact ⟨T6, some (.ref s.heap.size), _, _, _, X8, rfl, rfl, rfl, (fun h => by cases h), ⟨⟨rfl, B6, ba3.like (X3.warmed.alike.symm.trans X6.warmed.alike) p6.1 f6.1 f6.2.1 f6.2.2.1, f6.2.1.trans bv3, by rw [X6.warmed.alike.findClass, f6.1]; exact bf3, by rw [f6.2.2.1, bs3]; simp, fun j hj => by rw [f6.2.2.2 j, if_pos (by omega)]; rfl, kp3.put p6 (Nat.le_refl _)⟩, by rw [p6.2.2, bh3, hh0]; simp⟩, fun fs hl => c8.trans (X8.areturnOut hexec rfl hret rfl (hb hbytes d58) hl)⟩
end Cmp3
namespace CodL
def yN : MethodName := ⟨"java/lang/StringUTF16", "coderFromArrayLen", "([BI)B"⟩
abbrev yB : ByteArray := jdk_52_method_15_code
theorem d0 : decode yB 0 = .ok (.iload_n 1, 1) := by decide +kernel
theorem d1 : decode yB 1 = .ok (.aload_n 0, 1) := by decide +kernel
theorem d2 : decode yB 2 = .ok (.arraylength, 1) := by decide +kernel
theorem d3 : decode yB 3 = .ok (.isub, 1) := by decide +kernel
theorem d4 : decode yB 4 = .ok (.bipush 31, 2) := by decide +kernel
theorem d6 : decode yB 6 = .ok (.iushr, 1) := by decide +kernel
theorem d7 : decode yB 7 = .ok (.i2b, 1) := by decide +kernel
theorem d8 : decode yB 8 = .ok (.ireturn, 1) := by decide +kernel
def site : List Cond := []
def tab : Cond := tabOf yN yB 2 (some .byte) site
def P (d : Addr) (B : Cell) (args : Array Value) (s : State) : Prop := args = #[.ref d, .int (Int32.ofNat B.slots.size)] ∧ Arr .byte d B s
def E (r : Option Value) (s u : State) : Prop := XT.PureE (some (.int 0)) r s u
/-- an array as long as the number of chars: LATIN1 -/
theorem law (l : Launch) (d : Addr) (B : Cell) : Law l yN 2 2 0 0 yB 2 (some .byte) site (P d B) E [] 0 0 := by
  refine Law.of_walk (plainFor_of_name (by decide +kernel)) (by decide +kernel) (by decide +kernel) (by decide) (fun _ _ h => by rw [h.1]; rfl) (fun _ U U' hal hh h => ⟨h.1, h.2.mv hal hh⟩) (fun r U U' V V' h1 hal h2 h => XT.PureE.mv r U U' V V' h1 hal h2 h) ?_
  intro p e s m args below meth c s₁ X0 hexec hbytes hml hret hlk hnm hown hh0 W hP
  obtain ⟨rfl, hB⟩ := hP
  have hB0 := hB.mv X0.warmed.alike hh0
  have c1 : Steps p.tables e below (s₁.setTop (entryFrame m #[.ref d, .int (Int32.ofNat B.slots.size)] 2)) (s₁.setTop (mkF m 0 #[.val (.ref d), .val (.int (Int32.ofNat B.slots.size))] [])) := entry rfl
  have c2 : Steps p.tables e below (s₁.setTop (entryFrame m #[.ref d, .int (Int32.ofNat B.slots.size)] 2)) (s₁.setTop (mkF m 2 #[.val (.ref d), .val (.int (Int32.ofNat B.slots.size))] [.ref d, .int (Int32.ofNat B.slots.size)])) := c1.trans (by
    refine XS.iloadN X0.here hexec rfl (hb hbytes d0) rfl ?_
    refine XS.aloadN X0.here hexec rfl (hb hbytes d1) rfl rfl ?_
    exact Steps.refl _)
  have c3 : Steps p.tables e below (s₁.setTop (entryFrame m #[.ref d, .int (Int32.ofNat B.slots.size)] 2)) (s₁.setTop (mkF m 8 #[.val (.ref d), .val (.int (Int32.ofNat B.slots.size))] [.int (lo8 (ushr (Int32.ofNat B.slots.size - Int32.ofNat B.slots.size) 31))])) := c2.trans (by
    refine X0.alen hexec hB0 rfl rfl (hb hbytes d2) ?_
    refine XS.isub X0.here hexec rfl (hb hbytes d3) rfl ?_
    refine bipushV X0.here hexec rfl 31 (hb hbytes d4) (by decide) ?_
    refine iushr X0.here hexec rfl (hb hbytes d6) rfl ?_
    refine i2b X0.here hexec rfl (hb hbytes d7) rfl ?_
    exact Steps.refl _)
  have e0 : lo8 (ushr (Int32.ofNat B.slots.size - Int32.ofNat B.slots.size) 31) = 0 := by rw [Int32.sub_self]; decide
  rw [e0] at c3
  exact ⟨s₁, some (.int 0), _, _, _, X0, rfl, rfl, rfl, (fun h => by cases h), ⟨rfl, hh0⟩, fun fs hl => c3.trans (X0.ireturnOut hexec hret rfl (Or.inr (Or.inr (Or.inl rfl))) (hb hbytes d8) hl)⟩
end CodL
/-- the String at a is Latin-1 over a new byte[] (the heap's one new cell): the low bytes of the len chars of A from o on; every cell but a is kept -/
def Got (a : Addr) (D : Cell) (fV fC : Field) (A : Cell) (o len : Nat) (r : Option Value) (s u : State) : Prop := r = none ∧ ∃ D' V : Cell, Blank "java/lang/String" a D' u ∧ Same D D' [fV.slot, fC.slot] ∧ D'.slots[fV.slot]? = some (.ref s.heap.size) ∧ D'.slots[fC.slot]? = some (.int 0) ∧ Arr .byte s.heap.size V u ∧ V.vm = .none ∧ u.vm.findClass "[B" = some V.cls ∧ V.slots.size = len ∧ (∀ j, j < len → V.slots[j]? = some (.int (lo8 (cv A (o + j))))) ∧ (∀ (y : Addr) (c : Cell), y ≠ a → s.heap[y]? = some c → u.heap[y]? = some c) ∧ u.heap.size = s.heap.size + 1
theorem Got.mv {a : Addr} {D A : Cell} {fV fC : Field} {o len : Nat} : ∀ r (U U' V V' : State), U'.heap = U.heap → V.vm.Alike V'.vm → V'.heap = V.heap → Got a D fV fC A o len r U V → Got a D fV fC A o len r U' V' :=
  fun r U U' V V' h1 hal h2 ⟨e0, D', X, a1, a2, a3, a4, a5, a6, a7, a8, a9, a10, a11⟩ => ⟨e0, D', X, a1.mv hal h2, a2, by rw [h1]; exact a3, a4, by rw [h1]; exact a5.mv hal h2, a6, by rw [hal.findClass]; exact a7, a8, a9, by rw [h1, h2]; exact a10, by rw [h1, h2]; exact a11⟩
namespace New4
def yN : MethodName := ⟨"java/lang/String", "<init>", "([CIILjava/lang/Void;)V"⟩
abbrev yB : ByteArray := jdk_42_method_149_code
theorem d0 : decode yB 0 = .ok (.aload_n 0, 1) := by decide +kernel
theorem d1 : decode yB 1 = .ok (.invokespecial 1, 3) := by decide +kernel
theorem d4 : decode yB 4 = .ok (.iload_n 3, 1) := by decide +kernel
theorem d5 : decode yB 5 = .ok (.ifCond (.ne) 22, 3) := by decide +kernel
theorem d27 : decode yB 27 = .ok (.getstatic 38, 3) := by decide +kernel
theorem d30 : decode yB 30 = .ok (.ifCond (.eq) 28, 3) := by decide +kernel
theorem d33 : decode yB 33 = .ok (.aload_n 1, 1) := by decide +kernel
theorem d34 : decode yB 34 = .ok (.iload_n 2, 1) := by decide +kernel
theorem d35 : decode yB 35 = .ok (.iload_n 3, 1) := by decide +kernel
theorem d36 : decode yB 36 = .ok (.invokestatic 177, 3) := by decide +kernel
theorem d39 : decode yB 39 = .ok (.astore 5, 2) := by decide +kernel
theorem d41 : decode yB 41 = .ok (.aload_n 0, 1) := by decide +kernel
theorem d42 : decode yB 42 = .ok (.aload 5, 2) := by decide +kernel
theorem d44 : decode yB 44 = .ok (.iload_n 3, 1) := by decide +kernel
theorem d45 : decode yB 45 = .ok (.invokestatic 47, 3) := by decide +kernel
theorem d48 : decode yB 48 = .ok (.putfield 15, 3) := by decide +kernel
theorem d51 : decode yB 51 = .ok (.aload_n 0, 1) := by decide +kernel
theorem d52 : decode yB 52 = .ok (.aload 5, 2) := by decide +kernel
theorem d54 : decode yB 54 = .ok (.putfield 9, 3) := by decide +kernel
theorem d57 : decode yB 57 = .ok (.return_, 1) := by decide +kernel
def site : List Cond := [.fieldLink "java/lang/String" 38 "java/lang/String" "COMPACT_STRINGS" "Z", Cmp3.tab, CodL.tab, .laysFinal "java/lang/String" "java/lang/String" "value" "[B", .fieldLink "java/lang/String" 9 "java/lang/String" "value" "[B", .laysFinal "java/lang/String" "java/lang/String" "coder" "B", .fieldLink "java/lang/String" 15 "java/lang/String" "coder" "B"] ++ objW "java/lang/String" 1 ++ staticW "java/lang/String" 177 Cmp3.yN ++ staticW "java/lang/String" 47 CodL.yN
def tab : Cond := tabOf yN yB 6 none site
def P (a : Addr) (D : Cell) (fV fC : Field) (b : Addr) (A : Cell) (z : Int32) (o len : Nat) (args : Array Value) (s : State) : Prop := args = #[.ref a, .ref b, .int (Int32.ofNat o), .int (Int32.ofNat len), .null] ∧ Blank "java/lang/String" a D s ∧ Found "java/lang/String" "value" "[B" fV s ∧ Found "java/lang/String" "coder" "B" fC s ∧ Ch b A s ∧ StaticIs s "java/lang/String" "COMPACT_STRINGS" "Z" (.int z) ∧ ¬ z = 0 ∧ 0 < len ∧ o + len ≤ A.slots.size ∧ len ≤ 536870912 ∧ ∀ i, i < len → ¬ 255 < cv A (o + i)
def E (a : Addr) (D : Cell) (fV fC : Field) (A : Cell) (o len : Nat) (r : Option Value) (s u : State) : Prop := Got a D fV fC A o len r s u
/-- len > 0, no char of the range above 255: a Latin-1 String of their low bytes -/
theorem law (l : Launch) (a : Addr) (D : Cell) (fV fC : Field) (b : Addr) (A : Cell) (z : Int32) (o len : Nat) : Law l yN 5 4 2 35 yB 6 none site (P a D fV fC b A z o len) (E a D fV fC A o len) [⟨a, fC.slot⟩, ⟨a, fV.slot⟩] 1 len := by
  refine Law.of_walk (plainFor_of_name (by decide +kernel)) (by decide +kernel) (by decide +kernel) (by decide) (fun _ _ h => by rw [h.1]; rfl) (fun _ U U' hal hh h => ⟨h.1, h.2.1.mv hal hh, h.2.2.1.al hal, h.2.2.2.1.al hal, h.2.2.2.2.1.mv hal hh, h.2.2.2.2.2.1.there hal hh, h.2.2.2.2.2.2⟩) (fun r U U' V V' h1 hal h2 h => Got.mv r U U' V V' h1 hal h2 h) ?_
  intro p e s m args below meth c s₁ X0 hexec hbytes hml hret hlk hnm hown hh0 W hP
  obtain ⟨rfl, hB, f1, f2, hA, s1, hz, l0, l1, l2, hp⟩ := hP
  have a31 := hA.1.2.2.2
  have c1 : Steps p.tables e below (s₁.setTop (entryFrame m #[.ref a, .ref b, .int (Int32.ofNat o), .int (Int32.ofNat len), .null] 6)) (s₁.setTop (mkF m 0 #[.val (.ref a), .val (.ref b), .val (.int (Int32.ofNat o)), .val (.int (Int32.ofNat len)), .val .null, .unset] [])) := entry rfl
  have c2 : Steps p.tables e below (s₁.setTop (entryFrame m #[.ref a, .ref b, .int (Int32.ofNat o), .int (Int32.ofNat len), .null] 6)) (s₁.setTop (mkF m 1 #[.val (.ref a), .val (.ref b), .val (.int (Int32.ofNat o)), .val (.int (Int32.ofNat len)), .val .null, .unset] [.ref a])) := c1.trans (by
    refine XS.aloadN X0.here hexec rfl (hb hbytes d0) rfl rfl ?_
    exact Steps.refl _)
  obtain ⟨T3, X3, q3, st3⟩ := X0.oinit hexec hown (wks W (objW "java/lang/String" 1)) (g := (mkF m 1 #[.val (.ref a), .val (.ref b), .val (.int (Int32.ofNat o)), .val (.int (Int32.ofNat len)), .val .null, .unset] [.ref a])) rfl (by rw [hml]; rfl) (rest := []) rfl (hb hbytes d1) (W := 0) (by show 2 * 0 + 0 ≤ _; decide) (Nat.le_of_ble_eq_true rfl) (Nat.le_of_ble_eq_true rfl)
  have hh3 := q3.trans hh0
  have c4 : Steps p.tables e below (s₁.setTop (entryFrame m #[.ref a, .ref b, .int (Int32.ofNat o), .int (Int32.ofNat len), .null] 6)) (T3.setTop (mkF m 27 #[.val (.ref a), .val (.ref b), .val (.int (Int32.ofNat o)), .val (.int (Int32.ofNat len)), .val .null, .unset] [])) := (c2.trans (st3 _ (Steps.refl _))).trans (by
    refine XS.iloadN X3.here hexec rfl (hb hbytes d4) rfl ?_
    refine XS.ifYes X3.here hexec rfl (pc0 := 5) rfl (hb hbytes d5) rfl (i0_ne_t (nz32 (by omega) l0)) (by decide) rfl ?_
    exact Steps.refl _)
  obtain ⟨T5, X5, q5, st5⟩ := X3.sget hexec hown (wk W (.fieldLink "java/lang/String" 38 "java/lang/String" "COMPACT_STRINGS" "Z")) s1 (fun _ _ h => by rw [hh3]; exact h) (g := (mkF m 27 #[.val (.ref a), .val (.ref b), .val (.int (Int32.ofNat o)), .val (.int (Int32.ofNat len)), .val .null, .unset] [])) rfl (hb hbytes d27)
  have hh5 := q5.trans hh3
  have c6 : Steps p.tables e below (s₁.setTop (entryFrame m #[.ref a, .ref b, .int (Int32.ofNat o), .int (Int32.ofNat len), .null] 6)) (T5.setTop (mkF m 30 #[.val (.ref a), .val (.ref b), .val (.int (Int32.ofNat o)), .val (.int (Int32.ofNat len)), .val .null, .unset] [.int z])) := c4.trans (st5 _ (Steps.refl _))
  have c7 : Steps p.tables e below (s₁.setTop (entryFrame m #[.ref a, .ref b, .int (Int32.ofNat o), .int (Int32.ofNat len), .null] 6)) (T5.setTop (mkF m 36 #[.val (.ref a), .val (.ref b), .val (.int (Int32.ofNat o)), .val (.int (Int32.ofNat len)), .val .null, .unset] [.int (Int32.ofNat len), .int (Int32.ofNat o), .ref b])) := c6.trans (by
    refine XS.ifNo X5.here hexec rfl (hb hbytes d30) rfl (i0_eq_f hz) ?_
    refine XS.aloadN X5.here hexec rfl (hb hbytes d33) rfl rfl ?_
    refine XS.iloadN X5.here hexec rfl (hb hbytes d34) rfl ?_
    refine XS.iloadN X5.here hexec rfl (hb hbytes d35) rfl ?_
    exact Steps.refl _)
  obtain ⟨v8, T8, X8, E8, g8⟩ := X5.callS hexec (Cmp3.law l b A o len) hown (wks W (staticW "java/lang/String" 177 Cmp3.yN)) (wk W Cmp3.tab) (W := 0) (Nat.le_of_ble_eq_true rfl) (Nat.le_of_ble_eq_true rfl) (Nat.le_refl _) (by show 0 + len ≤ len; omega) (g := (mkF m 36 #[.val (.ref a), .val (.ref b), .val (.int (Int32.ofNat o)), .val (.int (Int32.ofNat len)), .val .null, .unset] [.int (Int32.ofNat len), .int (Int32.ofNat o), .ref b])) rfl (by rw [hml]; rfl) c7 (argsL := [.ref b, .int (Int32.ofNat o), .int (Int32.ofNat len)]) (rest := []) rfl rfl (by show 2 * 0 + 0 ≤ _; decide) (hb hbytes d36) (⟨rfl, hA.mv X5.warmed.alike hh5, l1, l2, hp⟩)
  obtain ⟨e8, z8⟩ := E8
  obtain ⟨rfl, N, n1, n2, n3, n4, n5, n6⟩ := NewArr.mv _ T5 s _ _ hh5.symm (Vm.Alike.refl _) rfl e8
  rw [hh5] at z8
  have hB1 := hB.keep X8.warmed.alike (n6 _ _ hB.1)
  have hne : s.heap.size ≠ a := (Nat.ne_of_lt (Array.getElem?_eq_some_iff.mp hB.1).1).symm
  have c9 : Steps p.tables e below (s₁.setTop (entryFrame m #[.ref a, .ref b, .int (Int32.ofNat o), .int (Int32.ofNat len), .null] 6)) (T8.setTop (mkF m 39 #[.val (.ref a), .val (.ref b), .val (.int (Int32.ofNat o)), .val (.int (Int32.ofNat len)), .val .null, .unset] [.ref s.heap.size])) := g8
  have c10 : Steps p.tables e below (s₁.setTop (entryFrame m #[.ref a, .ref b, .int (Int32.ofNat o), .int (Int32.ofNat len), .null] 6)) (T8.setTop (mkF m 45 #[.val (.ref a), .val (.ref b), .val (.int (Int32.ofNat o)), .val (.int (Int32.ofNat len)), .val .null, .val (.ref s.heap.size)] [.int (Int32.ofNat N.slots.size), .ref s.heap.size, .ref a])) := by
    have hc : Steps p.tables e below (s₁.setTop (entryFrame m #[.ref a, .ref b, .int (Int32.ofNat o), .int (Int32.ofNat len), .null] 6)) (T8.setTop (mkF m 45 #[.val (.ref a), .val (.ref b), .val (.int (Int32.ofNat o)), .val (.int (Int32.ofNat len)), .val .null, .val (.ref s.heap.size)] [.int (Int32.ofNat len), .ref s.heap.size, .ref a])) := c9.trans (by
      refine XS.astore X8.here hexec rfl (hb hbytes d39) rfl rfl rfl ?_
      refine XS.aloadN X8.here hexec rfl (hb hbytes d41) rfl rfl ?_
      refine XS.aload X8.here hexec rfl (hb hbytes d42) rfl rfl ?_
      refine XS.iloadN X8.here hexec rfl (hb hbytes d44) rfl ?_
      exact Steps.refl _)
    rw [n4]; exact hc
  obtain ⟨v11, T11, X11, E11, g11⟩ := X8.callS hexec (CodL.law l s.heap.size N) hown (wks W (staticW "java/lang/String" 47 CodL.yN)) (wk W CodL.tab) (W := 1) (Nat.le_of_ble_eq_true rfl) (Nat.le_of_ble_eq_true rfl) (Nat.le_refl _) (by show 0 + len + 0 ≤ len; omega) (g := (mkF m 45 #[.val (.ref a), .val (.ref b), .val (.int (Int32.ofNat o)), .val (.int (Int32.ofNat len)), .val .null, .val (.ref s.heap.size)] [.int (Int32.ofNat N.slots.size), .ref s.heap.size, .ref a])) rfl (by rw [hml]; rfl) c10 (argsL := [.ref s.heap.size, .int (Int32.ofNat N.slots.size)]) (rest := [.ref a]) rfl rfl (by show 2 * 0 + (1 + 0) ≤ _; decide) (hb hbytes d45) (⟨rfl, n1⟩)
  obtain ⟨rfl, q11⟩ := E11
  have hB11 := hB1.mv (X8.warmed.alike.symm.trans X11.warmed.alike) q11
  have c12 : Steps p.tables e below (s₁.setTop (entryFrame m #[.ref a, .ref b, .int (Int32.ofNat o), .int (Int32.ofNat len), .null] 6)) (T11.setTop (mkF m 48 #[.val (.ref a), .val (.ref b), .val (.int (Int32.ofNat o)), .val (.int (Int32.ofNat len)), .val .null, .val (.ref s.heap.size)] [.int 0, .ref a])) := g11
  obtain ⟨T13, X13, p13, bl13, sl13, st13⟩ := X11.finit hexec hown (wk W (.fieldLink "java/lang/String" 15 "java/lang/String" "coder" "B")) (Or.inr ⟨_, (wk W (.laysFinal "java/lang/String" "java/lang/String" "coder" "B"))⟩) (Or.inl ⟨rfl, hnm⟩) f2 (Or.inl rfl) hB11 (t := .byte) (by decide +kernel) rfl (g := (mkF m 48 #[.val (.ref a), .val (.ref b), .val (.int (Int32.ofNat o)), .val (.int (Int32.ofNat len)), .val .null, .val (.ref s.heap.size)] [.int 0, .ref a])) rfl (rest := []) rfl (hb hbytes d48)
  have c14 : Steps p.tables e below (s₁.setTop (entryFrame m #[.ref a, .ref b, .int (Int32.ofNat o), .int (Int32.ofNat len), .null] 6)) (T13.setTop (mkF m 54 #[.val (.ref a), .val (.ref b), .val (.int (Int32.ofNat o)), .val (.int (Int32.ofNat len)), .val .null, .val (.ref s.heap.size)] [.ref s.heap.size, .ref a])) := (c12.trans (st13 _ (Steps.refl _))).trans (by
    refine XS.aloadN X13.here hexec rfl (hb hbytes d51) rfl rfl ?_
    refine XS.aload X13.here hexec rfl (hb hbytes d52) rfl rfl ?_
    exact Steps.refl _)
  obtain ⟨T15, X15, p15, bl15, sl15, st15⟩ := X13.finit hexec hown (wk W (.fieldLink "java/lang/String" 9 "java/lang/String" "value" "[B")) (Or.inr ⟨_, (wk W (.laysFinal "java/lang/String" "java/lang/String" "value" "[B"))⟩) (Or.inl ⟨rfl, hnm⟩) f1 (Or.inl rfl) bl13 (t := (.array .byte)) (by decide +kernel) rfl (g := (mkF m 54 #[.val (.ref a), .val (.ref b), .val (.int (Int32.ofNat o)), .val (.int (Int32.ofNat len)), .val .null, .val (.ref s.heap.size)] [.ref s.heap.size, .ref a])) rfl (rest := []) rfl (hb hbytes d54)
  have c16 : Steps p.tables e below (s₁.setTop (entryFrame m #[.ref a, .ref b, .int (Int32.ofNat o), .int (Int32.ofNat len), .null] 6)) (T15.setTop (mkF m 57 #[.val (.ref a), .val (.ref b), .val (.int (Int32.ofNat o)), .val (.int (Int32.ofNat len)), .val .null, .val (.ref s.heap.size)] [])) := c14.trans (st15 _ (Steps.refl _))
  have ap := apart (Or.inr ⟨_, (wk W (.laysFinal "java/lang/String" "java/lang/String" "value" "[B"))⟩) (Or.inr ⟨_, (wk W (.laysFinal "java/lang/String" "java/lang/String" "coder" "B"))⟩) f1 f2 (t₁ := .array .byte) (t₂ := .byte) (by decide +kernel) (by decide +kernel) (by decide)
  have al := X8.warmed.alike.symm.trans X15.warmed.alike
  have n7 : T11.heap[s.heap.size]? = some N := by rw [q11]; exact n1.1
  exact ⟨T15, none, _, _, _, X15, by simp, rfl, by omega, (fun _ => rfl), ⟨rfl, _, N, bl15, ((Same.refl D _).set _ (by simp)).set _ (by simp), sl15, (Cell.slots_setSlot_ne _ ap).trans sl13, n1.keep al (p15.other hne (p13.other hne n7)), n2, by rw [al.findClass]; exact n3, n4, n5, fun y c h1 h2 => p15.other h1 (p13.other h1 (by rw [q11]; exact n6 y c h2)), by rw [p15.2.2, p13.2.2, q11]; exact z8⟩, fun fs hl => c16.trans (X15.returnOut hexec hret (hb hbytes d57) hl)⟩
end New4
namespace New1
def yN : MethodName := ⟨"java/lang/String", "<init>", "([C)V"⟩
abbrev yB : ByteArray := jdk_42_method_3_code
theorem d0 : decode yB 0 = .ok (.aload_n 0, 1) := by decide +kernel
theorem d1 : decode yB 1 = .ok (.aload_n 1, 1) := by decide +kernel
theorem d2 : decode yB 2 = .ok (.iconst 0, 1) := by decide +kernel
theorem d3 : decode yB 3 = .ok (.aload_n 1, 1) := by decide +kernel
theorem d4 : decode yB 4 = .ok (.arraylength, 1) := by decide +kernel
theorem d5 : decode yB 5 = .ok (.aconst_null, 1) := by decide +kernel
theorem d6 : decode yB 6 = .ok (.invokespecial 27, 3) := by decide +kernel
theorem d9 : decode yB 9 = .ok (.return_, 1) := by decide +kernel
def site : List Cond := [New4.tab] ++ initW "java/lang/String" 27 New4.yN
def tab : Cond := tabOf yN yB 2 none site
def P (a : Addr) (D : Cell) (fV fC : Field) (b : Addr) (A : Cell) (z : Int32) (args : Array Value) (s : State) : Prop := args = #[.ref a, .ref b] ∧ Blank "java/lang/String" a D s ∧ Found "java/lang/String" "value" "[B" fV s ∧ Found "java/lang/String" "coder" "B" fC s ∧ Ch b A s ∧ StaticIs s "java/lang/String" "COMPACT_STRINGS" "Z" (.int z) ∧ ¬ z = 0 ∧ 0 < A.slots.size ∧ A.slots.size ≤ 536870912 ∧ ∀ i, i < A.slots.size → ¬ 255 < cv A i
def E (a : Addr) (D : Cell) (fV fC : Field) (A : Cell) (r : Option Value) (s u : State) : Prop := Got a D fV fC A 0 A.slots.size r s u
/-- new String(chars), not empty, no char above 255: a Latin-1 String of their low bytes -/
theorem law (l : Launch) (a : Addr) (D : Cell) (fV fC : Field) (b : Addr) (A : Cell) (z : Int32) : Law l yN 2 1 3 52 yB 2 none site (P a D fV fC b A z) (E a D fV fC A) [⟨a, fC.slot⟩, ⟨a, fV.slot⟩] 1 A.slots.size := by
  refine Law.of_walk (plainFor_of_name (by decide +kernel)) (by decide +kernel) (by decide +kernel) (by decide) (fun _ _ h => by rw [h.1]; rfl) (fun _ U U' hal hh h => ⟨h.1, h.2.1.mv hal hh, h.2.2.1.al hal, h.2.2.2.1.al hal, h.2.2.2.2.1.mv hal hh, h.2.2.2.2.2.1.there hal hh, h.2.2.2.2.2.2⟩) (fun r U U' V V' h1 hal h2 h => Got.mv r U U' V V' h1 hal h2 h) ?_
  intro p e s m args below meth c s₁ X0 hexec hbytes hml hret hlk hnm hown hh0 W hP
  obtain ⟨rfl, hB, f1, f2, hA, s1, hz, l0, l2, hp⟩ := hP
  have c1 : Steps p.tables e below (s₁.setTop (entryFrame m #[.ref a, .ref b] 2)) (s₁.setTop (mkF m 0 #[.val (.ref a), .val (.ref b)] [])) := entry rfl
  have c2 : Steps p.tables e below (s₁.setTop (entryFrame m #[.ref a, .ref b] 2)) (s₁.setTop (mkF m 6 #[.val (.ref a), .val (.ref b)] [.null, .int (Int32.ofNat A.slots.size), .int 0, .ref b, .ref a])) := c1.trans (by
    refine XS.aloadN X0.here hexec rfl (hb hbytes d0) rfl rfl ?_
    refine XS.aloadN X0.here hexec rfl (hb hbytes d1) rfl rfl ?_
    refine iconstV X0.here hexec rfl 0 (hb hbytes d2) (by decide) ?_
    refine XS.aloadN X0.here hexec rfl (hb hbytes d3) rfl rfl ?_
    refine X0.alen hexec (hA.1.mv X0.warmed.alike hh0) rfl rfl (hb hbytes d4) ?_
    refine XS.aconstNull X0.here hexec rfl (hb hbytes d5) ?_
    exact Steps.refl _)
  obtain ⟨v3, T3, X3, E3, g3⟩ := X0.callN hexec (New4.law l a D fV fC b A z 0 A.slots.size) rfl hown (wks W (initW "java/lang/String" 27 New4.yN)) (W New4.tab (by simp only [site, List.mem_cons, List.mem_append, true_or, or_true])) (W := 0) (Nat.le_of_ble_eq_true rfl) (Nat.le_of_ble_eq_true rfl) (Nat.le_refl _) (by show 0 + A.slots.size ≤ A.slots.size; omega) (g := (mkF m 6 #[.val (.ref a), .val (.ref b)] [.null, .int (Int32.ofNat A.slots.size), .int (Int32.ofNat 0), .ref b, .ref a])) rfl (by rw [hml]; rfl) c2 (argsL := [.ref b, .int (Int32.ofNat 0), .int (Int32.ofNat A.slots.size), .null]) (rest := []) rfl rfl (by show 2 * 0 + 0 ≤ _; decide) (hb hbytes d6) (⟨rfl, hB.mv X0.warmed.alike hh0, f1.al X0.warmed.alike, f2.al X0.warmed.alike, hA.mv X0.warmed.alike hh0, s1.there X0.warmed.alike hh0, hz, l0, by omega, l2, fun i hi => by rw [Nat.zero_add]; exact hp i hi⟩)
  have e0 := Got.mv _ s₁ s _ _ hh0.symm (Vm.Alike.refl _) rfl E3
  obtain rfl := e0.1
  have c4 : Steps p.tables e below (s₁.setTop (entryFrame m #[.ref a, .ref b] 2)) (T3.setTop (mkF m 9 #[.val (.ref a), .val (.ref b)] [])) := g3
  exact ⟨T3, none, _, _, _, X3, by simp, rfl, by omega, (fun _ => rfl), e0, fun fs hl => c4.trans (X3.returnOut hexec hret (hb hbytes d9) hl)⟩
theorem pays {l : Launch} {R : Room} {p : Program} {e : Env} {below : List Frame} {s : State} {sargs : Array Value} {len W : Nat} (a : Addr) (D : Cell) (fV fC : Field) (b : Addr) (A : Cell) (z : Int32) (htab : tab.before sargs s = true) (hfr : 4 ≤ R.frames) (hlo : W + 65 ≤ R.locals) :
    Back l R p e below s sargs yN len W (fun A₁ a₁ => A₁.cells + 1 ≤ R.cells ∧ A₁.slots + A.slots.size ≤ R.slots ∧ P a D fV fC b A z a₁ A₁.U) (fun A₁ _ v₁ B₁ => E a D fV fC A v₁ A₁.U B₁.U ∧ B₁.locs = A₁.locs ++ [⟨a, fC.slot⟩, ⟨a, fV.slot⟩] ∧ B₁.cells = A₁.cells + 1 ∧ B₁.slots = A₁.slots + A.slots.size) :=
  (law l a D fV fC b A z).pays htab hfr (by omega)
end New1
/-- the byte, read back as charAt reads it, is the char -/
theorem lo8_mask {x : Int32} (h0 : ¬ x < 0) (h1 : ¬ 255 < x) : lo8 x &&& 255 = x := by
  have t : ∀ k : Fin 256, lo8 (Int32.ofNat k.val) &&& 255 = Int32.ofNat k.val := by decide +kernel
  rw [Int32.lt_iff_toInt_lt] at h0 h1
  have e0 : (0 : Int32).toInt = 0 := rfl
  have e1 : (255 : Int32).toInt = 255 := rfl
  obtain ⟨k, hk⟩ : ∃ k : Nat, x.toInt = k := ⟨x.toInt.toNat, by omega⟩
  have hx : x = Int32.ofNat k := Int32.toInt_inj.mp (by rw [hk, Int32.toInt_ofNat_small (by omega)])
  rw [hx]
  exact t ⟨k, by omega⟩
end StrChars
namespace StrChars.Road
open Jvm Sem ClassFile Op Lib Jvm.Stand Jvm.Free Jvm.Free.XT
open Jvm.Lib.Cold (StaticIs)
abbrev ST : String := "java/lang/String"
/-- every table word that New1's law asks, flat -/
abbrev words : List Jvm.Cond := [.code New1.yN New1.yB 2 none, .initialized ST, .methodLink ST 27 New4.yN, .instanceMethod New4.yN,
  .code New4.yN New4.yB 6 none, .fieldLink ST 38 ST "COMPACT_STRINGS" "Z", .laysFinal ST ST "value" "[B", .fieldLink ST 9 ST "value" "[B", .laysFinal ST ST "coder" "B", .fieldLink ST 15 ST "coder" "B",
  .methodLink ST 1 Lib.objectInit, .instanceMethod Lib.objectInit, .code Lib.objectInit ⟨#[0xb1]⟩ 1 none, .methodLink ST 177 Cmp3.yN, .static Cmp3.yN, .methodLink ST 47 CodL.yN, .static CodL.yN,
  .code Cmp3.yN Cmp3.yB 6 (some (.array .byte)), .initialized U16, .arrayClass .byte, .methodLink U16 115 Cmp5.yN, .static Cmp5.yN, .code Cmp5.yN Cmp5.yB 7 (some .int), .code CodL.yN CodL.yB 2 (some .byte)]
theorem tab_of {a : Array Value} {s : State} (h : ∀ w ∈ words, w.before a s = true) : New1.tab.before a s = true := by
  have h5 : Cmp5.tab.before a s = true := unparts (wk h (.code Cmp5.yN Cmp5.yB 7 (some .int))) (wks h (.initialized Cmp5.yN.cls :: Cmp5.site))
  have hc : CodL.tab.before a s = true := unparts (wk h (.code CodL.yN CodL.yB 2 (some .byte))) (wks h (.initialized CodL.yN.cls :: CodL.site))
  have q5 : ∀ w ∈ Cmp5.tab :: words, w.before a s = true := fun w hw => (List.mem_cons.mp hw).elim (fun e => e ▸ h5) (h w)
  have h3 : Cmp3.tab.before a s = true := unparts (wk q5 (.code Cmp3.yN Cmp3.yB 6 (some (.array .byte)))) (wks q5 (.initialized Cmp3.yN.cls :: Cmp3.site))
  have q3 : ∀ w ∈ Cmp3.tab :: CodL.tab :: words, w.before a s = true := fun w hw => (List.mem_cons.mp hw).elim (fun e => e ▸ h3) fun hw => (List.mem_cons.mp hw).elim (fun e => e ▸ hc) (h w)
  have h4 : New4.tab.before a s = true := unparts (wk q3 (.code New4.yN New4.yB 6 none)) (wks q3 (.initialized New4.yN.cls :: New4.site))
  have q4 : ∀ w ∈ New4.tab :: words, w.before a s = true := fun w hw => (List.mem_cons.mp hw).elim (fun e => e ▸ h4) (h w)
  exact unparts (wk q4 (.code New1.yN New1.yB 2 none)) (wks q4 (.initialized New1.yN.cls :: New1.site))
/-- the words ride from the start Z to the walk's own state -/
theorem moved {Z s : State} {a0 args : Array Value} (hZ : Z.Warmed39 s.vm) (hw : ∀ d ∈ words, d.before a0 Z = true) : ∀ d ∈ words, d.before args s = true := fun d hd => by
  have q := hw d hd
  have t : ∀ d ∈ words, d = .arrayClass .byte ∨ (d.onTables && d.keepsFace) = true := by decide +kernel
  rcases t d hd with rfl | t
  · exact RoadKit.mvA hZ q
  · exact RoadKit.mv hZ q t
/-- WHAT COMES BACK, over the tables of the start Z: h the heap at the call, h' behind it -/
def Q (Z : State) (x : Addr) (A : Cell) (h : Heap) (v : Option Value) (h' : Heap) (L : List Loc) : Prop := v = none ∧ (∀ y ∈ L, y.base = x) ∧ RoadKit.Keep h h' [x] ∧ h'.size = h.size + 1 ∧ RoadKit.Exa Z h' x ST ∧ RoadKit.Fld Z h' x ST "value" "[B" (.ref h.size) ∧ RoadKit.Fld Z h' x ST "coder" "B" (.int 0) ∧
  (∃ V : Cell, RoadKit.Arr Z h' h.size V .byte ∧ V.vm = .none ∧ Z.vm.findClass "[B" = some V.cls ∧ V.slots.size = A.slots.size ∧ ∀ j, j < A.slots.size → V.slots[j]? = some (.int (lo8 (cv A j)))) ∧
  ∀ (O n d : String) (w : Value), RoadKit.Fld Z h x O n d w → RoadKit.slotOf Z O n d ≠ RoadKit.slotOf Z ST "value" "[B" → RoadKit.slotOf Z O n d ≠ RoadKit.slotOf Z ST "coder" "B" → RoadKit.Fld Z h' x O n d w
/-- **new String(chars) AT A CALL, IN THE ROAD'S FORM**: for specialBack behind newO: x the fresh String, b the char[] with the cell A -/
theorem back {p : Program} {l : Launch} {e : Env} {R : Room} {s : State} {args : Array Value} {below : List Frame} {len W : Nat} {Z : State} {a0 : Array Value} {h : Heap} (hZ : Z.Warmed39 s.vm) (hw : ∀ d ∈ words, d.before a0 Z = true) {kI : Nat} (wi : (Jvm.Cond.instantiable ST kI).before a0 Z = true)
    {x b : Addr} {A : Cell} {z : Int32} {v0 c0 : Value} (E : RoadKit.Exa Z h x ST) (V : RoadKit.Fld Z h x ST "value" "[B" v0) (C : RoadKit.Fld Z h x ST "coder" "B" c0) (K : RoadKit.Arr Z h b A .char) (hty : Typed .char A) (S : RoadKit.Sta Z h ST "COMPACT_STRINGS" "Z" (.int z)) (hz : ¬ z = 0)
    (l0 : 0 < A.slots.size) (l2 : A.slots.size ≤ 536870912) (hp : ∀ i, i < A.slots.size → ¬ 255 < cv A i) (hfr : 4 ≤ R.frames) (hlo : W + 65 ≤ R.locals) :
    Back l R p e below s args New1.yN len W (fun P a => a = #[.ref x, .ref b] ∧ P.U.heap = h ∧ P.cells + 1 ≤ R.cells ∧ P.slots + A.slots.size ≤ R.slots)
      (fun P _ v B => ∃ L, Q Z x A h v B.U.heap L ∧ B.locs = P.locs ++ L ∧ B.cells = P.cells + 1 ∧ B.slots = P.slots + A.slots.size) := by
  intro m meth c P g ig mk a X hg hsize hdg hW hn hp'
  obtain ⟨rfl, rfl, r1, r2⟩ := hp'
  have al : Z.vm.Alike P.U.vm := hZ.alike.trans X.warmed.alike
  obtain ⟨D, cfV, kV, iV, fV, hD, gV, stV, knV, obV, asV, slV⟩ := id V
  obtain ⟨D', cfC, kC, iC, fC, hD', gC, stC, -, -, asC, slC⟩ := id C
  cases hD.symm.trans hD'
  obtain ⟨D2, kD, e1, e2, e3, e4, e5⟩ := id E
  cases hD.symm.trans e1
  obtain ⟨c2, k2, i1, i2, i3, -⟩ := Cond.instantiable_spec wi
  cases e2.symm.trans i1
  cases e3.symm.trans i2
  obtain ⟨kU, u1, u2⟩ := al.2.2 _ _ e3
  have hB : Blank ST x D P.U := ⟨hD, ⟨knV, fun q hq => by rw [hq] at obV; cases obV⟩, by rw [al.findClass]; exact e2, kU, u1, by rw [u2]; exact i3, by rw [u2]; exact e5 i3⟩
  have F1 : Found ST "value" "[B" fV P.U := ⟨SBG.found_only al ⟨cfV, kV, iV, gV⟩, stV⟩
  have F2 : Found ST "coder" "B" fC P.U := ⟨SBG.found_only al ⟨cfC, kC, iC, gC⟩, stC⟩
  have hA : Ch b A P.U := ⟨⟨K.1, State.isArrayOf_alike al K.2.1, K.2.2, by omega⟩, hty⟩
  have hS : StaticIs P.U ST "COMPACT_STRINGS" "Z" (.int z) := by
    obtain ⟨cfS, iS, kS, fS, st, cS, t1, t2, t3, t4, t5, t6, t7⟩ := S
    exact StaticIs.there (s := { Z with heap := P.U.heap }) ⟨cfS, iS, kS, fS, st, cS, t1, t2, t3, t4, t5, (fun q => by rw [q] at t6; cases t6), t7⟩ al rfl
  obtain ⟨v, B, X', ⟨⟨hv, E', V', q1, q2, q3, q4, q5, q6, q7, q8, q9, q10, q11⟩, hl, hc, hs⟩, st⟩ := New1.pays x D fV fC b A z (tab_of (moved hZ hw)) hfr hlo m meth c P g ig mk _ X hg hsize hdg hW hn ⟨r1, r2, rfl, hB, F1, F2, hA, hS, hz, l0, l2, hp⟩
  have al' : Z.vm.Alike B.U.vm := hZ.alike.trans X'.warmed.alike
  have hsz : E'.slots.size = D.slots.size := by
    obtain ⟨-, -, -, kB, w1, w2, w3⟩ := q1
    obtain ⟨kB', y1, y2⟩ := al'.2.2 _ _ e3
    rw [q2.2.1] at w1
    cases w1.symm.trans y1
    rw [w3, e5 i3, y2]
  refine ⟨v, B, X', ⟨_, ⟨hv, ?_, ⟨by omega, fun y cy hy hn' => q10 y cy (by simpa using hn') hy, fun y cy hy => ?_⟩, q11, ⟨E', _, q1.1, by rw [q2.2.1]; exact e2, by rw [q2.2.1]; exact e3, by rw [q2.1]; exact obV, fun _ => by rw [hsz]; exact e5 i3⟩,
    ⟨E', cfV, kV, iV, fV, q1.1, gV, stV, by rw [q2.1]; exact knV, by rw [q2.1]; exact obV, by rw [q2.2.1]; exact asV, q3⟩, ⟨E', cfC, kC, iC, fC, q1.1, gC, stC, by rw [q2.1]; exact knV, by rw [q2.1]; exact obV, by rw [q2.2.1]; exact asC, q4⟩,
    ⟨V', ⟨q5.1, State.isArrayOf_alike al'.symm q5.2.1, q5.2.2.1⟩, q6, by rw [← al'.findClass]; exact q7, q8, fun j hj => by have := q9 j hj; rwa [Nat.zero_add] at this⟩, fun O n d w F n1 n2 => ?_⟩, hl, hc, hs⟩, st⟩
  · intro y hy
    simp only [List.mem_cons, List.not_mem_nil, or_false] at hy
    rcases hy with rfl | rfl <;> rfl
  · by_cases q : y = x
    · subst q
      cases hD.symm.trans hy
      exact ⟨E', q1.1, q2.2.1, q2.1, hsz⟩
    · exact ⟨cy, q10 y cy q hy, rfl, rfl, rfl⟩
  · obtain ⟨D3, cf, k, i, f, g1, g2, g3, g4, g5, g6, g7⟩ := F
    cases hD.symm.trans g1
    simp only [RoadKit.slotOf, g2, gV, gC, Option.map_some, Option.getD_some] at n1 n2
    exact ⟨E', cf, k, i, f, q1.1, g2, g3, by rw [q2.1]; exact g4, by rw [q2.1]; exact g5, by rw [q2.2.1]; exact g6, by rw [q2.2.2 f.slot (by simp [n1, n2])]; exact g7⟩
end StrChars.Road
namespace StrChars.Road
open Jvm Sem ClassFile Op Lib Jvm.Stand Jvm.Free Jvm.Free.XT
/-- WHAT COMES BACK, the byte[] as a list of values -/
def QA (Z : State) (x : Addr) (zn : Int32) (cs : List Int32) (h : Heap) (v : Option Value) (h' : Heap) (L : List Loc) : Prop := v = none ∧ (∀ y ∈ L, y.base = x) ∧ RoadKit.Keep h h' [x] ∧ h'.size = h.size + 1 ∧ RoadKit.Exa Z h' x ST ∧ RoadKit.Fld Z h' x ST "value" "[B" (.ref h.size) ∧ RoadKit.Fld Z h' x ST "coder" "B" (.int 0) ∧
  (∃ kb, Z.vm.findClass "[B" = some kb ∧ RoadKit.Arv Z h' h.size kb .byte zn (cs.map fun c => .int (lo8 c)) (.int 0)) ∧
  ∀ (O n d : String) (w : Value), RoadKit.Fld Z h x O n d w → RoadKit.slotOf Z O n d ≠ RoadKit.slotOf Z ST "value" "[B" → RoadKit.slotOf Z O n d ≠ RoadKit.slotOf Z ST "coder" "B" → RoadKit.Fld Z h' x O n d w
/-- **new String(chars) AT A CALL, THE ARRAYS AS LISTS**: the char[] at b holds cs, not empty, no char above 255 -/
theorem backArv {p : Program} {l : Launch} {e : Env} {R : Room} {s : State} {args : Array Value} {below : List Frame} {len W : Nat} {Z : State} {a0 : Array Value} {h : Heap} (hZ : Z.Warmed39 s.vm) (hw : ∀ d ∈ words, d.before a0 Z = true) {kI : Nat} (wi : (Jvm.Cond.instantiable ST kI).before a0 Z = true)
    {x b : Addr} {k : ClassId} {zn z : Int32} {cs : List Int32} {dv v0 c0 : Value} (E : RoadKit.Exa Z h x ST) (V : RoadKit.Fld Z h x ST "value" "[B" v0) (C : RoadKit.Fld Z h x ST "coder" "B" c0) (K : RoadKit.Arv Z h b k .char zn (cs.map Value.int) dv) (S : RoadKit.Sta Z h ST "COMPACT_STRINGS" "Z" (.int z)) (hz : ¬ z = 0)
    (hlen : zn.toNatClampNeg = cs.length) (h0 : 0 < cs.length) (hbig : cs.length ≤ 536870912) (hall : ∀ c ∈ cs, ¬ 255 < c) (hfr : 4 ≤ R.frames) (hlo : W + 65 ≤ R.locals) :
    Back l R p e below s args New1.yN len W (fun P a => a = #[.ref x, .ref b] ∧ P.U.heap = h ∧ P.cells + 1 ≤ R.cells ∧ P.slots + cs.length ≤ R.slots)
      (fun P _ v B => ∃ L, QA Z x zn cs h v B.U.heap L ∧ B.locs = P.locs ++ L ∧ B.cells = P.cells + 1 ∧ B.slots = P.slots + cs.length) := by
  obtain ⟨A, K1, K2, K3, K4, K5, K6⟩ := K
  have e : A.slots.size = cs.length := K3.trans hlen
  have hat : ∀ (i : Nat) (hi : i < cs.length), A.slots[i]? = some (.int cs[i]) := fun i hi => by rw [K5 i (by omega)]; simp [List.getD_eq_getElem?_getD, hi]
  have hcv : ∀ (i : Nat) (hi : i < cs.length), cv A i = cs[i] := fun i hi => by unfold cv; rw [hat i hi]
  have hty : Typed .char A := fun i v hv => by
    have hi : i < A.slots.size := (Array.getElem?_eq_some_iff.mp hv).1
    have q := K5 i hi
    rw [hv] at q
    rw [Option.some.inj q]
    exact K6 i hi
  refine Back.mono (back hZ hw wi E V C K1 hty S hz (by omega) (by omega) (fun i hi => by rw [hcv i (by omega)]; exact hall _ (List.getElem_mem _)) hfr hlo) (fun P a hp => ⟨hp.1, hp.2.1, hp.2.2.1, by rw [e]; exact hp.2.2.2⟩) (fun P a v B hp hq => ?_)
  obtain ⟨L, ⟨q1, q2, q3, q4, q5, q6, q7, ⟨V', v1, v2, v3, v4, v5⟩, q9⟩, hl, hc, hs⟩ := hq
  refine ⟨L, ⟨q1, q2, q3, q4, q5, q6, q7, ⟨V'.cls, v3, V', v1, rfl, by rw [v4, e, hlen], K4, fun i hi => ?_, fun i hi => ?_⟩, q9⟩, hl, hc, by rw [hs, e]⟩
  · have hi' : i < cs.length := by omega
    rw [v5 i (by omega), hcv i hi']; simp [List.getD_eq_getElem?_getD, hi']
  · have hi' : i < cs.length := by omega
    simp only [List.getD_eq_getElem?_getD, List.getElem?_map, List.getElem?_eq_getElem hi', Option.map_some, Option.getD_some]
    exact fits_lo8 _
end StrChars.Road
namespace StrChars.Road
open Jvm Sem ClassFile Op Lib Jvm.Stand Jvm.Free Jvm.Free.XT
/-- WHAT COMES BACK, in the writer's own shape -/
def QV (Z : State) (x : Addr) (N : Int32) (bs : List Int32) (h : Heap) (n0 : Nat) (v : Option Value) (h' : Heap) (L : List Loc) : Prop := v = none ∧ RoadKit.Fr n0 L ∧ RoadKit.Keep h h' [x] ∧ RoadKit.Exa Z h' x ST ∧ RoadKit.Fld Z h' x ST "coder" "B" (.int 0) ∧
  ∃ (t : Addr) (kb : ClassId), n0 ≤ t ∧ h.size ≤ t ∧ ¬ t = x ∧ RoadKit.Fld Z h' x ST "value" "[B" (.ref t) ∧ RoadKit.Arv Z h' t kb .byte N (bs.map Value.int) (.int 0)
/-- **new String(chars) AT A CALL, FOR THE WRITER**: a char[] of n known ints, each 0 to 255 -/
theorem backV {p : Program} {l : Launch} {e : Env} {R : Room} {s : State} {args : Array Value} {below : List Frame} {len W : Nat} {Z : State} {a0 : Array Value} {h : Heap} (hZ : Z.Warmed39 s.vm) (hw : ∀ d ∈ words, d.before a0 Z = true) {kI : Nat} (wi : (Jvm.Cond.instantiable ST kI).before a0 Z = true)
    {x b : Addr} {kC : ClassId} {cs bs : List Int32} {d v0 c0 : Value} {z N : Int32} {n n0 : Nat} (hx0 : n0 ≤ x) (hh0 : n0 ≤ h.size) (E : RoadKit.Exa Z h x ST) (V : RoadKit.Fld Z h x ST "value" "[B" v0) (C : RoadKit.Fld Z h x ST "coder" "B" c0) (K : RoadKit.Arv Z h b kC .char N (cs.map Value.int) d) (S : RoadKit.Sta Z h ST "COMPACT_STRINGS" "Z" (.int z)) (hz : ¬ z = 0)
    (hn : cs.length = n) (hN : N = Int32.ofNat n) (l0 : 0 < n) (l2 : n ≤ 4000) (hp : ∀ c ∈ cs, ¬ c < 0 ∧ ¬ (255 : Int32) < c) (hb : bs = cs.map (fun c => c.toInt8.toInt32)) (hfr : 4 ≤ R.frames) (hlo : W + 65 ≤ R.locals) :
    Back l R p e below s args (⟨"java/lang/String", "<init>", "([C)V"⟩ : MethodName) len W (fun P a => a = #[.ref x, .ref b] ∧ P.U.heap = h ∧ P.cells + 1 ≤ R.cells ∧ P.slots + n ≤ R.slots)
      (fun P _ v B => ∃ L, QV Z x N bs h n0 v B.U.heap L ∧ B.locs = P.locs ++ L ∧ B.cells = P.cells + 1 ∧ B.slots = P.slots + n) := by
  subst hn hN hb
  refine Back.mono (backArv hZ hw wi E V C K S hz (n32 (by omega)) l0 (by omega) (fun c hc => (hp c hc).2) hfr hlo) (fun P a hp => hp) (fun P a v B hp hq => ?_)
  obtain ⟨L, ⟨q1, q2, q3, q4, q5, q6, q7, ⟨kb, v1, v2⟩, q9⟩, hl, hc, hs⟩ := hq
  exact ⟨L, ⟨q1, fun y hy => by rw [q2 y hy]; exact hx0, q3, q5, q7, h.size, kb, hh0, Nat.le_refl _, Nat.ne_of_gt E.lt, q6, by rw [List.map_map]; exact v2⟩, hl, hc, hs⟩
end StrChars.Road
namespace StrChars
open Jvm Sem ClassFile Op Lib Jvm.Stand Jvm.Free.XT Jvm.Free.ALB Jvm.Free.JM Jvm.Free
open Jvm.Lib.Cold (StaticIs)
def hi8 (x : Int32) : Int32 := lo8 (x >>> ((8 : Int32) &&& 31))
/-- what StringUTF16.getChar makes of two bytes -/
def pairCh (u v : Int32) : Int32 := (((u &&& 255) <<< ((0 : Int32) &&& 31)) ||| ((v &&& 255) <<< ((8 : Int32) &&& 31))).toUInt32.toUInt16.toUInt32.toInt32
theorem shr0 (c : Int32) : c >>> ((0 : Int32) &&& 31) = c := by
  have e : ((0 : Int32) &&& 31) = 0 := by decide
  rw [e]
  apply Int32.toBitVec_inj.mp
  rw [Int32.toBitVec_shiftRight]
  have e1 : ((0 : Int32).toBitVec.smod 32) = 0#32 := by decide
  rw [e1, BitVec.sshiftRight_eq']
  exact BitVec.sshiftRight_zero
theorem lo8_and (x : Int32) : (lo8 x &&& 255).toBitVec.toNat = x.toBitVec.toNat % 256 := by
  have h : (lo8 x).toBitVec = (x.toBitVec.signExtend 8).signExtend 32 := by rw [lo8, Int8.toBitVec_toInt32, Int32.toBitVec_toInt8]
  rw [Int32.toBitVec_and, BitVec.toNat_and, h]
  have e : ((x.toBitVec.signExtend 8).signExtend 32).toNat % 256 = x.toBitVec.toNat % 256 := by
    rw [BitVec.toNat_signExtend]
    have hlt := x.toBitVec.isLt
    simp only [BitVec.toNat_setWidth, BitVec.toNat_signExtend]
    split <;> split <;> omega
  rw [← e]
  exact Nat.and_two_pow_sub_one_eq_mod _ 8
theorem pair_says {c : Int32} (h0 : ¬ c < 0) (h1 : ¬ 65535 < c) : pairCh (lo8 c) (hi8 c) = c := by
  rw [Int32.lt_iff_toInt_lt] at h0 h1
  have e0 : (0 : Int32).toInt = 0 := rfl
  have e1 : (65535 : Int32).toInt = 65535 := rfl
  have hc : c.toInt = c.toBitVec.toNat := by
    have := c.toBitVec.isLt
    have e : c.toInt = c.toBitVec.toInt := rfl
    rw [e] at h0 h1
    rw [e]
    rw [BitVec.toInt_eq_toNat_cond] at h0 h1 ⊢
    split at h0 <;> split <;> omega
  have hn : c.toBitVec.toNat < 65536 := by omega
  have a1 := lo8_and c
  have a2 : (hi8 c &&& 255).toBitVec.toNat = c.toBitVec.toNat / 256 := by
    rw [hi8, lo8_and]
    have e : ((8 : Int32) &&& 31) = 8 := by decide
    rw [e, Int32.toBitVec_shiftRight]
    have e2 : ((8 : Int32).toBitVec.smod 32) = 8#32 := by decide
    rw [e2, BitVec.sshiftRight_eq', BitVec.toNat_sshiftRight_of_msb_false (by rw [BitVec.msb_eq_false_iff_two_mul_lt]; omega)]
    show c.toBitVec.toNat >>> 8 % 256 = _
    rw [Nat.shiftRight_eq_div_pow]
    omega
  unfold pairCh
  apply Int32.toBitVec_inj.mp
  apply BitVec.eq_of_toNat_eq
  have f0 : ((0 : Int32) &&& 31) = 0 := by decide
  have f8 : ((8 : Int32) &&& 31) = 8 := by decide
  rw [f0, f8]
  have g : (((lo8 c &&& 255) <<< (0 : Int32)) ||| ((hi8 c &&& 255) <<< (8 : Int32))).toBitVec.toNat = c.toBitVec.toNat := by
    rw [Int32.toBitVec_or, Int32.toBitVec_shiftLeft, Int32.toBitVec_shiftLeft]
    have s0 : ((0 : Int32).toBitVec.smod 32) = 0#32 := by decide
    have s8 : ((8 : Int32).toBitVec.smod 32) = 8#32 := by decide
    rw [s0, s8, BitVec.toNat_or]
    simp only [BitVec.shiftLeft_eq', BitVec.toNat_shiftLeft, a1, a2]
    show (c.toBitVec.toNat % 256) <<< 0 % 2 ^ 32 ||| (c.toBitVec.toNat / 256) <<< 8 % 2 ^ 32 = _
    rw [Nat.shiftLeft_zero, Nat.mod_eq_of_lt (show c.toBitVec.toNat % 256 < 2 ^ 32 by omega), Nat.mod_eq_of_lt (show (c.toBitVec.toNat / 256) <<< 8 < 2 ^ 32 by rw [Nat.shiftLeft_eq]; omega), Nat.or_comm, ← Nat.shiftLeft_add_eq_or_of_lt (by omega), Nat.shiftLeft_eq]
    omega
  show BitVec.toNat (((((lo8 c &&& 255) <<< (0 : Int32)) ||| ((hi8 c &&& 255) <<< (8 : Int32))).toBitVec.setWidth 16).setWidth 32) = _
  rw [BitVec.toNat_setWidth, BitVec.toNat_setWidth, g]
  omega
end StrChars
namespace StrChars
open Jvm Sem ClassFile Op Lib Jvm.Stand Jvm.Free.XT Jvm.Free.ALB Jvm.Free.JM Jvm.Free
open Jvm.Lib.Cold (StaticIs)
theorem narrow_ch {c : Int32} (h0 : ¬ c < 0) (h1 : ¬ 65535 < c) : narrow .char (.int c) = .int c := by
  have q : narrow .char (.int (pairCh (lo8 c) (hi8 c))) = .int (pairCh (lo8 c) (hi8 c)) := narrow_c _
  rwa [pair_says h0 h1] at q
/-- the array's cell V codes the n chars f 0 .. f (n - 1) by the coder cd, as the JDK does: coder 1 just where some char is above 255 -/
def Cod (cd : Int32) (n : Nat) (f : Nat → Int32) (V : Cell) : Prop := (cd = 0 ∧ V.slots.size = n ∧ ∀ j, j < n → V.slots[j]? = some (.int (lo8 (f j))) ∧ ¬ 255 < f j) ∨ (cd = 1 ∧ V.slots.size = 2 * n ∧ (∀ j, j < n → V.slots[2 * j]? = some (.int (lo8 (f j))) ∧ V.slots[2 * j + 1]? = some (.int (hi8 (f j)))) ∧ ∃ j, j < n ∧ 255 < f j)
/-- **x is a String of the n chars f 0 .. f (n - 1)**, Latin-1 or UTF-16; its array at t has the cell V -/
def Txt (x t : Addr) (V : Cell) (cd : Int32) (n : Nat) (f : Nat → Int32) (U : State) : Prop := Exact "java/lang/String" x U ∧ Has x "java/lang/String" "value" "[B" (.ref t) U ∧ Has x "java/lang/String" "coder" "B" (.int cd) U ∧ XT.Arr .byte t V U ∧ Cod cd n f V ∧ ∀ j, j < n → ¬ f j < 0 ∧ ¬ 65535 < f j
theorem Txt.mv {x t : Addr} {V : Cell} {cd : Int32} {n : Nat} {f : Nat → Int32} {U U' : State} (h : Txt x t V cd n f U) (hal : U.vm.Alike U'.vm) (hh : U'.heap = U.heap) : Txt x t V cd n f U' := ⟨h.1.mv hal hh, h.2.1.mv hal hh, h.2.2.1.mv hal hh, h.2.2.2.1.mv hal hh, h.2.2.2.2⟩
end StrChars
namespace StrChars.Road
open Jvm Sem ClassFile Op Lib Jvm.Stand Jvm.Free Jvm.Free.XT
open Jvm.Lib.Cold (StaticIs)
theorem consq {a : Array Value} {s : State} {c : Jvm.Cond} {L : List Jvm.Cond} (h0 : c.before a s = true) (h : ∀ w ∈ L, w.before a s = true) : ∀ w ∈ c :: L, w.before a s = true := fun w hw => (List.mem_cons.mp hw).elim (fun e => e ▸ h0) (h w)
/-- the bytes of the chars cs, low before high -/
def wideBytes : List Int32 → List Value
  | [] => []
  | c :: cs => .int (lo8 c) :: .int (hi8 c) :: wideBytes cs
theorem wide_lo (d : Value) : ∀ (cs : List Int32) (j : Nat), j < cs.length → (wideBytes cs).getD (2 * j) d = .int (lo8 (cs.getD j 0))
  | [], j, h => absurd h (Nat.not_lt_zero j)
  | c :: cs, 0, _ => rfl
  | c :: cs, j + 1, h => by
    have q := wide_lo d cs j (by simpa using h)
    rw [show 2 * (j + 1) = 2 * j + 1 + 1 from by omega]
    simpa [wideBytes] using q
theorem wide_hi (d : Value) : ∀ (cs : List Int32) (j : Nat), j < cs.length → (wideBytes cs).getD (2 * j + 1) d = .int (hi8 (cs.getD j 0))
  | [], j, h => absurd h (Nat.not_lt_zero j)
  | c :: cs, 0, _ => rfl
  | c :: cs, j + 1, h => by
    have q := wide_hi d cs j (by simpa using h)
    rw [show 2 * (j + 1) + 1 = 2 * j + 1 + 1 + 1 from by omega]
    simpa [wideBytes] using q
theorem low_at (d : Value) (cs : List Int32) (j : Nat) (h : j < cs.length) : (cs.map fun c => Value.int (lo8 c)).getD j d = .int (lo8 (cs.getD j 0)) := by
  simp [List.getD_eq_getElem?_getD, h]
/-- an array of N2 bytes vs codes the chars cs by the coder cd -/
def CodA (cs : List Int32) (cd N2 : Int32) (vs : List Value) : Prop := (cd = 0 ∧ N2 = Int32.ofNat cs.length ∧ vs = (cs.map fun c => Value.int (lo8 c)) ∧ ∀ c ∈ cs, ¬ 255 < c) ∨ (cd = 1 ∧ N2 = Int32.ofNat (2 * cs.length) ∧ vs = wideBytes cs ∧ ∃ c ∈ cs, 255 < c)
theorem CodA.cod {cs : List Int32} {cd N2 : Int32} {vs : List Value} {V : Cell} (h : CodA cs cd N2 vs) (hn : 2 * cs.length < 2 ^ 31) (hs : V.slots.size = N2.toNatClampNeg) (hv : RoadKit.Has V vs (.int 0)) : Cod cd cs.length (fun j => cs.getD j 0) V := by
  rcases h with ⟨rfl, rfl, rfl, h⟩ | ⟨rfl, rfl, rfl, c, hc, hw⟩
  · rw [n32 (by omega)] at hs
    exact Or.inl ⟨rfl, hs, fun j hj => ⟨by rw [hv j (by omega), low_at _ _ _ hj], by
      have e : cs.getD j 0 = cs[j] := by simp [List.getD_eq_getElem?_getD, hj]
      show ¬ 255 < cs.getD j 0
      rw [e]; exact h _ (List.getElem_mem _)⟩⟩
  · rw [n32 (by omega)] at hs
    obtain ⟨j, hj, rfl⟩ := List.getElem_of_mem hc
    exact Or.inr ⟨rfl, hs, fun j hj => ⟨by rw [hv _ (by omega), wide_lo _ _ _ hj], by rw [hv _ (by omega), wide_hi _ _ _ hj]⟩, j, hj, by
      have e : cs.getD j 0 = cs[j] := by simp [List.getD_eq_getElem?_getD, hj]
      show 255 < cs.getD j 0
      rw [e]; exact hw⟩
/-- an object of exactly java/lang/String, its two fields found: as the laws ask it -/
theorem strObj {Z U : State} {a0 : Array Value} {kI : Nat} (wi : (Jvm.Cond.instantiable ST kI).before a0 Z = true) (al : Z.vm.Alike U.vm) {x : Addr} {v0 c0 : Value} (E : RoadKit.Exa Z U.heap x ST) (V : RoadKit.Fld Z U.heap x ST "value" "[B" v0) (C : RoadKit.Fld Z U.heap x ST "coder" "B" c0) :
    ∃ (D : Cell) (fV fC : Field), Blank ST x D U ∧ Found ST "value" "[B" fV U ∧ Found ST "coder" "B" fC U ∧ D.slots[fV.slot]? = some v0 ∧ D.slots[fC.slot]? = some c0 ∧ RoadKit.slotOf Z ST "value" "[B" = fV.slot ∧ RoadKit.slotOf Z ST "coder" "B" = fC.slot := by
  obtain ⟨D, cfV, kV, iV, fV, hD, gV, stV, knV, obV, asV, slV⟩ := V
  obtain ⟨D', cfC, kC, iC, fC, hD', gC, stC, -, -, asC, slC⟩ := C
  cases hD.symm.trans hD'
  obtain ⟨D2, kD, e1, e2, e3, e4, e5⟩ := E
  cases hD.symm.trans e1
  obtain ⟨c2, k2, i1, i2, i3, -⟩ := Cond.instantiable_spec wi
  cases e2.symm.trans i1
  cases e3.symm.trans i2
  obtain ⟨kU, u1, u2⟩ := al.2.2 _ _ e3
  exact ⟨D, fV, fC, ⟨hD, ⟨knV, fun q hq => by rw [hq] at obV; cases obV⟩, by rw [al.findClass]; exact e2, kU, u1, by rw [u2]; exact i3, by rw [u2]; exact e5 i3⟩, ⟨SBG.found_only al ⟨cfV, kV, iV, gV⟩, stV⟩, ⟨SBG.found_only al ⟨cfC, kC, iC, gC⟩, stC⟩, slV, slC, by simp [RoadKit.slotOf, gV], by simp [RoadKit.slotOf, gC]⟩
theorem sta_is {Z U : State} (al : Z.vm.Alike U.vm) {C n d : String} {v : Value} (S : RoadKit.Sta Z U.heap C n d v) : StaticIs U C n d v := by
  obtain ⟨cfS, iS, kS, fS, st, cS, t1, t2, t3, t4, t5, t6, t7⟩ := S
  exact StaticIs.there (s := { Z with heap := U.heap }) ⟨cfS, iS, kS, fS, st, cS, t1, t2, t3, t4, t5, (fun q => by rw [q] at t6; cases t6), t7⟩ al rfl
end StrChars.Road
namespace StrChars
open Jvm Sem ClassFile Op Lib Jvm.Stand Jvm.Free.XT Jvm.Free.ALB Jvm.Free.JM Jvm.Free
open Jvm.Lib.Cold (StaticIs)
/-- what place i of a byte[]'s cell holds -/
def yv (A : Cell) (i : Nat) : Int32 := match A.slots[i]? with | some (.int x) => x | _ => 0
theorem yv_get {a : Addr} {A : Cell} {U : State} (h : XT.Arr .byte a A U) (ht : Typed .byte A) {i : Nat} (hi : i < A.slots.size) : A.slots[i]? = some (.int (yv A i)) := by
  have e := Array.getElem?_eq_getElem hi
  have f := ht i _ e
  unfold yv; rw [e]
  generalize A.slots[i] = v at f
  cases v <;> simp [fits] at f ⊢
/-- the two arrays are equal, place for place -/
def EqC (A B : Cell) : Prop := A.slots.size = B.slots.size ∧ ∀ i, i < A.slots.size → yv A i = yv B i
/-- a boolean that says whether p -/
def Says01 (q : Prop) (r : Option Value) (s u : State) : Prop := ∃ v : Int32, r = some (.int v) ∧ u.heap = s.heap ∧ ((v = 1 ∧ q) ∨ (v = 0 ∧ ¬ q))
theorem Says01.mv {q : Prop} : ∀ r (U U' V V' : State), U'.heap = U.heap → V.vm.Alike V'.vm → V'.heap = V.heap → Says01 q r U V → Says01 q r U' V' :=
  fun r U U' V V' h1 _ h2 ⟨v, a, b, c⟩ => ⟨v, a, by rw [h1, h2]; exact b, c⟩
namespace LEq
def yN : MethodName := ⟨"java/lang/StringLatin1", "equals", "([B[B)Z"⟩
abbrev yB : ByteArray := jdk_43_method_13_code
theorem d0 : decode yB 0 = .ok (.aload_n 0, 1) := by decide +kernel
theorem d1 : decode yB 1 = .ok (.arraylength, 1) := by decide +kernel
theorem d2 : decode yB 2 = .ok (.aload_n 1, 1) := by decide +kernel
theorem d3 : decode yB 3 = .ok (.arraylength, 1) := by decide +kernel
theorem d4 : decode yB 4 = .ok (.if_icmp (.ne) 30, 3) := by decide +kernel
theorem d7 : decode yB 7 = .ok (.iconst 0, 1) := by decide +kernel
theorem d8 : decode yB 8 = .ok (.istore_n 2, 1) := by decide +kernel
theorem d9 : decode yB 9 = .ok (.iload_n 2, 1) := by decide +kernel
theorem d10 : decode yB 10 = .ok (.aload_n 0, 1) := by decide +kernel
theorem d11 : decode yB 11 = .ok (.arraylength, 1) := by decide +kernel
theorem d12 : decode yB 12 = .ok (.if_icmp (.ge) 20, 3) := by decide +kernel
theorem d15 : decode yB 15 = .ok (.aload_n 0, 1) := by decide +kernel
theorem d16 : decode yB 16 = .ok (.iload_n 2, 1) := by decide +kernel
theorem d17 : decode yB 17 = .ok (.baload, 1) := by decide +kernel
theorem d18 : decode yB 18 = .ok (.aload_n 1, 1) := by decide +kernel
theorem d19 : decode yB 19 = .ok (.iload_n 2, 1) := by decide +kernel
theorem d20 : decode yB 20 = .ok (.baload, 1) := by decide +kernel
theorem d21 : decode yB 21 = .ok (.if_icmp (.eq) 5, 3) := by decide +kernel
theorem d24 : decode yB 24 = .ok (.iconst 0, 1) := by decide +kernel
theorem d25 : decode yB 25 = .ok (.ireturn, 1) := by decide +kernel
theorem d26 : decode yB 26 = .ok (.iinc 2 1, 3) := by decide +kernel
theorem d29 : decode yB 29 = .ok (.goto (-20), 3) := by decide +kernel
theorem d32 : decode yB 32 = .ok (.iconst 1, 1) := by decide +kernel
theorem d33 : decode yB 33 = .ok (.ireturn, 1) := by decide +kernel
theorem d34 : decode yB 34 = .ok (.iconst 0, 1) := by decide +kernel
theorem d35 : decode yB 35 = .ok (.ireturn, 1) := by decide +kernel
def site : List Cond := []
def tab : Cond := tabOf yN yB 3 (some .boolean) site
def P (a : Addr) (A : Cell) (b : Addr) (B : Cell) (args : Array Value) (s : State) : Prop := args = #[.ref a, .ref b] ∧ XT.Arr .byte a A s ∧ Typed .byte A ∧ XT.Arr .byte b B s ∧ Typed .byte B
/-- whether two byte[] are equal, place for place -/
theorem law (l : Launch) (a : Addr) (A : Cell) (b : Addr) (B : Cell) : Law l yN 2 2 0 0 yB 3 (some .boolean) site (P a A b B) (Says01 (EqC A B)) [] 0 0 := by
  refine Law.of_walk (plainFor_of_name (by decide +kernel)) (by decide +kernel) (by decide +kernel) (by decide) (fun _ _ h => by rw [h.1]; rfl) (fun _ U U' hal hh h => ⟨h.1, h.2.1.mv hal hh, h.2.2.1, h.2.2.2.1.mv hal hh, h.2.2.2.2⟩) (fun r U U' V V' h1 hal h2 h => Says01.mv r U U' V V' h1 hal h2 h) ?_
  intro p e s m args below meth c s₁ X0 hexec hbytes hml hret hlk hnm hown hh0 W hP
  obtain ⟨rfl, hA, tA, hB, tB⟩ := hP
  have a31 := hA.2.2.2
  have b31 := hB.2.2.2
  have hA0 := hA.mv X0.warmed.alike hh0
  have hB0 := hB.mv X0.warmed.alike hh0
  have c1 : Steps p.tables e below (s₁.setTop (entryFrame m #[.ref a, .ref b] 3)) (s₁.setTop (mkF m 0 #[.val (.ref a), .val (.ref b), .unset] [])) := entry rfl
  have c2 : Steps p.tables e below (s₁.setTop (entryFrame m #[.ref a, .ref b] 3)) (s₁.setTop (mkF m 4 #[.val (.ref a), .val (.ref b), .unset] [.int (Int32.ofNat B.slots.size), .int (Int32.ofNat A.slots.size)])) := c1.trans (by
    refine XS.aloadN X0.here hexec rfl (hb hbytes d0) rfl rfl ?_
    refine X0.alen hexec hA0 rfl rfl (hb hbytes d1) ?_
    refine XS.aloadN X0.here hexec rfl (hb hbytes d2) rfl rfl ?_
    refine X0.alen hexec hB0 rfl rfl (hb hbytes d3) ?_
    exact Steps.refl _)
  by_cases hs : A.slots.size = B.slots.size
  · have c3 : Steps p.tables e below (s₁.setTop (entryFrame m #[.ref a, .ref b] 3)) (s₁.setTop (mkF m 9 #[.val (.ref a), .val (.ref b), .val (.int 0)] [])) := c2.trans (by
      refine XS.icmpNo X0.here hexec rfl (hb hbytes d4) rfl (ii_ne_f (by rw [hs])) ?_
      refine iconstV X0.here hexec rfl 0 (hb hbytes d7) (by decide) ?_
      refine XS.istoreN X0.here hexec rfl (hb hbytes d8) rfl rfl ?_
      exact Steps.refl _)
    have loop : ∀ (r i : Nat), i + r = A.slots.size → (∀ j, j < i → yv A j = yv B j) → Steps p.tables e below (s₁.setTop (entryFrame m #[.ref a, .ref b] 3)) (s₁.setTop (mkF m 9 #[.val (.ref a), .val (.ref b), .val (.int (Int32.ofNat i))] [])) → ∃ (pc : Nat) (Ls : Array Slot) (v : Int32), (pc = 25 ∨ pc = 33) ∧ ((v = 1 ∧ EqC A B) ∨ (v = 0 ∧ ¬ EqC A B)) ∧ Steps p.tables e below (s₁.setTop (entryFrame m #[.ref a, .ref b] 3)) (s₁.setTop (mkF m pc Ls [.int v])) := by
      intro r
      induction r with
      | zero =>
        intro i hi he cl
        exact ⟨33, _, 1, Or.inr rfl, Or.inl ⟨rfl, hs, fun j hj => he j (by omega)⟩, cl.trans (by
          refine XS.iloadN X0.here hexec rfl (hb hbytes d9) rfl ?_
          refine XS.aloadN X0.here hexec rfl (hb hbytes d10) rfl rfl ?_
          refine X0.alen hexec hA0 rfl rfl (hb hbytes d11) ?_
          refine XS.icmpYes X0.here hexec rfl (pc0 := 12) rfl (hb hbytes d12) rfl (ii_ge_t (nlt32 (by omega) (by omega))) (by decide) rfl ?_
          refine iconstV X0.here hexec rfl 1 (hb hbytes d32) (by decide) ?_
          exact Steps.refl _)⟩
      | succ r ih =>
        intro i hi he cl
        have c4 : Steps p.tables e below (s₁.setTop (entryFrame m #[.ref a, .ref b] 3)) (s₁.setTop (mkF m 21 #[.val (.ref a), .val (.ref b), .val (.int (Int32.ofNat i))] [.int (yv B i), .int (yv A i)])) := cl.trans (by
          refine XS.iloadN X0.here hexec rfl (hb hbytes d9) rfl ?_
          refine XS.aloadN X0.here hexec rfl (hb hbytes d10) rfl rfl ?_
          refine X0.alen hexec hA0 rfl rfl (hb hbytes d11) ?_
          refine XS.icmpNo X0.here hexec rfl (hb hbytes d12) rfl (ii_ge_f (lt32 (by omega) (by omega))) ?_
          refine XS.aloadN X0.here hexec rfl (hb hbytes d15) rfl rfl ?_
          refine XS.iloadN X0.here hexec rfl (hb hbytes d16) rfl ?_
          refine X0.aget hexec hA0 rfl (yv_get hA tA (i := i) (by omega)) rfl rfl (hb hbytes d17) ?_
          refine XS.aloadN X0.here hexec rfl (hb hbytes d18) rfl rfl ?_
          refine XS.iloadN X0.here hexec rfl (hb hbytes d19) rfl ?_
          refine X0.aget hexec hB0 rfl (yv_get hB tB (i := i) (by omega)) rfl rfl (hb hbytes d20) ?_
          exact Steps.refl _)
        by_cases hv : yv A i = yv B i
        · have c5 : Steps p.tables e below (s₁.setTop (entryFrame m #[.ref a, .ref b] 3)) (s₁.setTop (mkF m 9 #[.val (.ref a), .val (.ref b), .val (.int (Int32.ofNat i + 1))] [])) := c4.trans (by
            refine XS.icmpYes X0.here hexec rfl (pc0 := 21) rfl (hb hbytes d21) rfl (ii_eq_t hv) (by decide) rfl ?_
            refine iincV X0.here hexec rfl 1 (hb hbytes d26) (by decide) rfl rfl ?_
            refine XS.goto X0.here hexec rfl (pc0 := 29) rfl (hb hbytes d29) (by decide) rfl ?_
            exact Steps.refl _)
          rw [succ32] at c5
          exact ih (i + 1) (by omega) (fun j hj => by
            by_cases e : j = i
            · rw [e]; exact hv
            · exact he j (by omega)) c5
        · exact ⟨25, _, 0, Or.inl rfl, Or.inr ⟨rfl, fun q => hv (q.2 i (by omega))⟩, c4.trans (by
            refine XS.icmpNo X0.here hexec rfl (hb hbytes d21) rfl (ii_eq_f hv) ?_
            refine iconstV X0.here hexec rfl 0 (hb hbytes d24) (by decide) ?_
            exact Steps.refl _)⟩
    obtain ⟨pc, Ls, v, hpc, hv, cz⟩ := loop A.slots.size 0 (by omega) (fun j hj => absurd hj (Nat.not_lt_zero j)) c3
    have nv : narrow .boolean (.int v) = .int v := by rcases hv with ⟨rfl, -⟩ | ⟨rfl, -⟩ <;> rfl
    rcases hpc with rfl | rfl
    · exact ⟨s₁, some (.int v), _, _, _, X0, rfl, rfl, rfl, (fun h => by cases h), ⟨v, rfl, hh0, hv⟩, fun fs hl => cz.trans (X0.ireturnOut hexec hret nv (Or.inr (Or.inl rfl)) (hb hbytes d25) hl)⟩
    · exact ⟨s₁, some (.int v), _, _, _, X0, rfl, rfl, rfl, (fun h => by cases h), ⟨v, rfl, hh0, hv⟩, fun fs hl => cz.trans (X0.ireturnOut hexec hret nv (Or.inr (Or.inl rfl)) (hb hbytes d33) hl)⟩
  · have c3 : Steps p.tables e below (s₁.setTop (entryFrame m #[.ref a, .ref b] 3)) (s₁.setTop (mkF m 35 #[.val (.ref a), .val (.ref b), .unset] [.int 0])) := c2.trans (by
      refine XS.icmpYes X0.here hexec rfl (pc0 := 4) rfl (hb hbytes d4) rfl (ii_ne_t (ne32 a31 b31 hs)) (by decide) rfl ?_
      refine iconstV X0.here hexec rfl 0 (hb hbytes d34) (by decide) ?_
      exact Steps.refl _)
    exact ⟨s₁, some (.int 0), _, _, _, X0, rfl, rfl, rfl, (fun h => by cases h), ⟨0, rfl, hh0, Or.inr ⟨rfl, fun q => hs q.1⟩⟩, fun fs hl => c3.trans (X0.ireturnOut hexec hret rfl (Or.inr (Or.inl rfl)) (hb hbytes d35) hl)⟩
end LEq
theorem Cod.ty {cd : Int32} {n : Nat} {f : Nat → Int32} {V : Cell} (h : Cod cd n f V) : Typed .byte V := fun i v hv => by
  have hi : i < V.slots.size := (Array.getElem?_eq_some_iff.mp hv).1
  rcases h with ⟨-, k1, k2⟩ | ⟨-, k1, k2, -⟩
  · rw [(k2 i (by omega)).1] at hv; cases hv; exact fits_lo8 _
  · rcases Nat.mod_two_eq_zero_or_one i with e | e
    · obtain ⟨j, rfl⟩ : ∃ j, i = 2 * j := ⟨i / 2, by omega⟩
      rw [(k2 j (by omega)).1] at hv; cases hv; exact fits_lo8 _
    · obtain ⟨j, rfl⟩ : ∃ j, i = 2 * j + 1 := ⟨i / 2, by omega⟩
      rw [(k2 j (by omega)).2] at hv; cases hv; exact fits_lo8 _
/-- the same text -/
def SameT (n : Nat) (f : Nat → Int32) (k : Nat) (g : Nat → Int32) : Prop := n = k ∧ ∀ j, j < n → f j = g j
theorem lo8_inj {x y : Int32} (h0 : ¬ x < 0) (h1 : ¬ 255 < x) (k0 : ¬ y < 0) (k1 : ¬ 255 < y) (h : lo8 x = lo8 y) : x = y := by
  rw [← lo8_mask h0 h1, ← lo8_mask k0 k1, h]
/-- arrays coded by one coder are equal just where the texts are -/
theorem Cod.eqv {cd : Int32} {n k : Nat} {f g : Nat → Int32} {V V' : Cell} (h : Cod cd n f V) (h' : Cod cd k g V') (hf : ∀ j, j < n → ¬ f j < 0 ∧ ¬ 65535 < f j) (hg : ∀ j, j < k → ¬ g j < 0 ∧ ¬ 65535 < g j) : EqC V V' ↔ SameT n f k g := by
  have yvv : ∀ {W : Cell} {i : Nat} {x : Int32}, W.slots[i]? = some (.int x) → yv W i = x := fun q => by unfold yv; rw [q]
  rcases h with ⟨rfl, k1, k2⟩ | ⟨rfl, k1, k2, -⟩
  · rcases h' with ⟨-, m1, m2⟩ | ⟨e, -⟩
    · constructor
      · rintro ⟨e1, e2⟩
        refine ⟨by omega, fun j hj => ?_⟩
        have q := e2 j (by omega)
        rw [yvv (k2 j hj).1, yvv (m2 j (by omega)).1] at q
        exact lo8_inj (hf j hj).1 (k2 j hj).2 (hg j (by omega)).1 (m2 j (by omega)).2 q
      · rintro ⟨rfl, e2⟩
        refine ⟨by omega, fun j hj => ?_⟩
        rw [yvv (k2 j (by omega)).1, yvv (m2 j (by omega)).1, e2 j (by omega)]
    · exact absurd e (by decide)
  · rcases h' with ⟨e, -⟩ | ⟨-, m1, m2, -⟩
    · exact absurd e (by decide)
    · constructor
      · rintro ⟨e1, e2⟩
        refine ⟨by omega, fun j hj => ?_⟩
        have q1 := e2 (2 * j) (by omega)
        have q2 := e2 (2 * j + 1) (by omega)
        rw [yvv (k2 j hj).1, yvv (m2 j (by omega)).1] at q1
        rw [yvv (k2 j hj).2, yvv (m2 j (by omega)).2] at q2
        rw [← pair_says (hf j hj).1 (hf j hj).2, ← pair_says (hg j (by omega)).1 (hg j (by omega)).2, q1, q2]
      · rintro ⟨rfl, e2⟩
        refine ⟨by omega, fun i hi => ?_⟩
        rcases Nat.mod_two_eq_zero_or_one i with e | e
        · obtain ⟨j, rfl⟩ : ∃ j, i = 2 * j := ⟨i / 2, by omega⟩
          rw [yvv (k2 j (by omega)).1, yvv (m2 j (by omega)).1, e2 j (by omega)]
        · obtain ⟨j, rfl⟩ : ∃ j, i = 2 * j + 1 := ⟨i / 2, by omega⟩
          rw [yvv (k2 j (by omega)).2, yvv (m2 j (by omega)).2, e2 j (by omega)]
/-- two codings differ: so do the texts -/
theorem Cod.dif {cd cd' : Int32} {n k : Nat} {f g : Nat → Int32} {V V' : Cell} (h : Cod cd n f V) (h' : Cod cd' k g V') (hne : ¬ cd = cd') : ¬ SameT n f k g := by
  rintro ⟨rfl, e⟩
  rcases h with ⟨rfl, -, k2⟩ | ⟨rfl, -, -, j, hj, hw⟩
  · rcases h' with ⟨rfl, -⟩ | ⟨-, -, -, j, hj, hw⟩
    · exact hne rfl
    · exact (k2 j hj).2 (by rw [e j hj]; exact hw)
  · rcases h' with ⟨-, -, m2⟩ | ⟨rfl, -⟩
    · exact (m2 j hj).2 (by rw [← e j hj]; exact hw)
    · exact hne rfl
/-- an object of exactly C is an instance of C -/
theorem cinst {p : Program} {l : Launch} {e : Env} {R : Room} {s : State} {m : MethodId} {args : Array Value} {below : List Frame} {meth : Method} {c : Code} {T : State} {locs : List Loc} {cells slots : Nat} (X : Stand p l e R s m args below meth c T locs cells slots) (hexec : p.tables.exec = Jvm.exec) {own C : String} {index : Nat} (hown : s.vm.findClass own = some m.cls) (hlink : (Cond.classLink own index C).before args s = true) {a : Addr} (hE : Exact C a T)
    {g : JFrame} (hg : g.method = m) {rest : List Value} (hstack : g.stack = .ref a :: rest) (hdg : decode c.code g.pc = .ok (.instanceof index, 3)) :
    ∃ T', Stand p l e R s m args below meth c T' locs cells slots ∧ T'.heap = T.heap ∧ ∀ target, Steps p.tables e below (T'.setTop { g with pc := g.pc + 3, stack := .int 1 :: rest }) target → Steps p.tables e below (T.setTop g) target := by
  obtain ⟨cB, h1, D, h2, h3, h4⟩ := hE
  have h1' : s.vm.findClass C = some cB := by rw [← X.warmed.alike.findClass]; exact h1
  obtain ⟨vm', X', st⟩ := X.instanceofYes hexec hown hlink h2 h4 h1' (by rw [h3]; exact Jvm.Free.SB.assignable_self _ _) hg hstack hdg
  exact ⟨_, X', rfl, st⟩
theorem cself {p : Program} {l : Launch} {e : Env} {R : Room} {s : State} {m : MethodId} {args : Array Value} {below : List Frame} {meth : Method} {c : Code} {T : State} {locs : List Loc} {cells slots : Nat} (X : Stand p l e R s m args below meth c T locs cells slots) (hexec : p.tables.exec = Jvm.exec) {own C : String} {index : Nat} (hown : s.vm.findClass own = some m.cls) (hlink : (Cond.classLink own index C).before args s = true) {a : Addr} (hE : Exact C a T)
    {g : JFrame} (hg : g.method = m) {rest : List Value} (hstack : g.stack = .ref a :: rest) (hdg : decode c.code g.pc = .ok (.checkcast index, 3)) :
    ∃ T', Stand p l e R s m args below meth c T' locs cells slots ∧ T'.heap = T.heap ∧ ∀ target, Steps p.tables e below (T'.setTop { g with pc := g.pc + 3, stack := .ref a :: rest }) target → Steps p.tables e below (T.setTop g) target := by
  obtain ⟨cB, h1, D, h2, h3, h4⟩ := hE
  have h1' : s.vm.findClass C = some cB := by rw [← X.warmed.alike.findClass]; exact h1
  obtain ⟨vm', X', st⟩ := X.checkcastYes hexec hown hlink h2 h4 h1' (by rw [h3]; exact Jvm.Free.SB.assignable_self _ _) hg hstack hdg
  exact ⟨_, X', rfl, fun t h => st t (by rw [← hstack] at h; exact h)⟩
namespace SEq
def yN : MethodName := ⟨"java/lang/String", "equals", "(Ljava/lang/Object;)Z"⟩
abbrev yB : ByteArray := jdk_42_method_66_code
theorem d0 : decode yB 0 = .ok (.aload_n 0, 1) := by decide +kernel
theorem d1 : decode yB 1 = .ok (.aload_n 1, 1) := by decide +kernel
theorem d2 : decode yB 2 = .ok (.if_acmp (.ne) 5, 3) := by decide +kernel
theorem d5 : decode yB 5 = .ok (.iconst 1, 1) := by decide +kernel
theorem d6 : decode yB 6 = .ok (.ireturn, 1) := by decide +kernel
theorem d7 : decode yB 7 = .ok (.aload_n 1, 1) := by decide +kernel
theorem d8 : decode yB 8 = .ok (.instanceof 10, 3) := by decide +kernel
theorem d11 : decode yB 11 = .ok (.ifCond (.eq) 43, 3) := by decide +kernel
theorem d14 : decode yB 14 = .ok (.aload_n 1, 1) := by decide +kernel
theorem d15 : decode yB 15 = .ok (.checkcast 10, 3) := by decide +kernel
theorem d18 : decode yB 18 = .ok (.astore_n 2, 1) := by decide +kernel
theorem d19 : decode yB 19 = .ok (.getstatic 38, 3) := by decide +kernel
theorem d22 : decode yB 22 = .ok (.ifCond (.eq) 14, 3) := by decide +kernel
theorem d25 : decode yB 25 = .ok (.aload_n 0, 1) := by decide +kernel
theorem d26 : decode yB 26 = .ok (.getfield 15, 3) := by decide +kernel
theorem d29 : decode yB 29 = .ok (.aload_n 2, 1) := by decide +kernel
theorem d30 : decode yB 30 = .ok (.getfield 15, 3) := by decide +kernel
theorem d33 : decode yB 33 = .ok (.if_icmp (.ne) 21, 3) := by decide +kernel
theorem d36 : decode yB 36 = .ok (.aload_n 0, 1) := by decide +kernel
theorem d37 : decode yB 37 = .ok (.getfield 9, 3) := by decide +kernel
theorem d40 : decode yB 40 = .ok (.aload_n 2, 1) := by decide +kernel
theorem d41 : decode yB 41 = .ok (.getfield 9, 3) := by decide +kernel
theorem d44 : decode yB 44 = .ok (.invokestatic 541, 3) := by decide +kernel
theorem d47 : decode yB 47 = .ok (.ifCond (.eq) 7, 3) := by decide +kernel
theorem d50 : decode yB 50 = .ok (.iconst 1, 1) := by decide +kernel
theorem d51 : decode yB 51 = .ok (.goto 4, 3) := by decide +kernel
theorem d54 : decode yB 54 = .ok (.iconst 0, 1) := by decide +kernel
theorem d55 : decode yB 55 = .ok (.ireturn, 1) := by decide +kernel
def site : List Cond := [.classLink "java/lang/String" 10 "java/lang/String", .fieldLink "java/lang/String" 38 "java/lang/String" "COMPACT_STRINGS" "Z", .fieldLink "java/lang/String" 15 "java/lang/String" "coder" "B", .fieldLink "java/lang/String" 9 "java/lang/String" "value" "[B", LEq.tab] ++ staticW "java/lang/String" 541 LEq.yN
def tab : Cond := tabOf yN yB 3 (some .boolean) site
def P (x t : Addr) (V : Cell) (cd : Int32) (n : Nat) (f : Nat → Int32) (y t' : Addr) (V' : Cell) (cd' : Int32) (k : Nat) (g : Nat → Int32) (z : Int32) (args : Array Value) (s : State) : Prop := args = #[.ref x, .ref y] ∧ Txt x t V cd n f s ∧ Txt y t' V' cd' k g s ∧ StaticIs s "java/lang/String" "COMPACT_STRINGS" "Z" (.int z) ∧ ¬ z = 0
/-- equals(Object) of two Strings: whether the texts are the same -/
theorem law (l : Launch) (x t : Addr) (V : Cell) (cd : Int32) (n : Nat) (f : Nat → Int32) (y t' : Addr) (V' : Cell) (cd' : Int32) (k : Nat) (g : Nat → Int32) (z : Int32) : Law l yN 2 1 1 14 yB 3 (some .boolean) site (P x t V cd n f y t' V' cd' k g z) (Says01 (SameT n f k g)) [] 0 0 := by
  refine Law.of_walk (plainFor_of_name (by decide +kernel)) (by decide +kernel) (by decide +kernel) (by decide) (fun _ _ h => by rw [h.1]; rfl) (fun _ U U' hal hh h => ⟨h.1, h.2.1.mv hal hh, h.2.2.1.mv hal hh, h.2.2.2.1.there hal hh, h.2.2.2.2⟩) (fun r U U' V V' h1 hal h2 h => Says01.mv r U U' V V' h1 hal h2 h) ?_
  intro p e s m args below meth c s₁ X0 hexec hbytes hml hret hlk hnm hown hh0 W hP
  obtain ⟨rfl, hx, hy, s1, hz⟩ := hP
  have c1 : Steps p.tables e below (s₁.setTop (entryFrame m #[.ref x, .ref y] 3)) (s₁.setTop (mkF m 2 #[.val (.ref x), .val (.ref y), .unset] [.ref y, .ref x])) := Steps.trans (entry rfl) (by
    show Steps p.tables e below (s₁.setTop (mkF m 0 #[.val (.ref x), .val (.ref y), .unset] [])) _
    refine XS.aloadN X0.here hexec rfl (hb hbytes d0) rfl rfl ?_
    refine XS.aloadN X0.here hexec rfl (hb hbytes d1) rfl rfl ?_
    exact Steps.refl _)
  by_cases hxy : x = y
  · have c2 : Steps p.tables e below (s₁.setTop (entryFrame m #[.ref x, .ref y] 3)) (s₁.setTop (mkF m 6 #[.val (.ref x), .val (.ref y), .unset] [.int 1])) := c1.trans (by
      refine acmpNo X0.here hexec rfl (hb hbytes d2) rfl rfl rfl (by simp [acmp, hxy]) ?_
      refine iconstV X0.here hexec rfl 1 (hb hbytes d5) (by decide) ?_
      exact Steps.refl _)
    subst hxy
    have ec : cd = cd' := by
      obtain ⟨D, fd, a1, a2, a3⟩ := hx.2.2.1
      obtain ⟨D', fd', b1, b2, b3⟩ := hy.2.2.1
      cases a1.symm.trans b1
      obtain ⟨q1, q2, q3, q4⟩ := a2.1
      obtain ⟨r1, r2, r3, r4⟩ := b2.1
      cases q4.symm.trans r4
      cases a3.symm.trans b3; rfl
    have et : t = t' := by
      obtain ⟨D, fd, a1, a2, a3⟩ := hx.2.1
      obtain ⟨D', fd', b1, b2, b3⟩ := hy.2.1
      cases a1.symm.trans b1
      obtain ⟨q1, q2, q3, q4⟩ := a2.1
      obtain ⟨r1, r2, r3, r4⟩ := b2.1
      cases q4.symm.trans r4
      cases a3.symm.trans b3; rfl
    subst ec et
    have ev : V = V' := by cases hx.2.2.2.1.1.symm.trans hy.2.2.2.1.1; rfl
    subst ev
    have hs : SameT n f k g := (Cod.eqv hx.2.2.2.2.1 hy.2.2.2.2.1 hx.2.2.2.2.2 hy.2.2.2.2.2).mp ⟨rfl, fun _ _ => rfl⟩
    exact ⟨s₁, some (.int 1), _, _, _, X0, rfl, rfl, rfl, (fun h => by cases h), ⟨1, rfl, hh0, Or.inl ⟨rfl, hs⟩⟩, fun fs hl => c2.trans (X0.ireturnOut hexec hret rfl (Or.inr (Or.inl rfl)) (hb hbytes d6) hl)⟩
  · have c2 : Steps p.tables e below (s₁.setTop (entryFrame m #[.ref x, .ref y] 3)) (s₁.setTop (mkF m 8 #[.val (.ref x), .val (.ref y), .unset] [.ref y])) := c1.trans (by
      refine acmpYes X0.here hexec rfl (pc0 := 2) rfl (hb hbytes d2) rfl rfl rfl (by simp [acmp, hxy]) (by decide) rfl ?_
      refine XS.aloadN X0.here hexec rfl (hb hbytes d7) rfl rfl ?_
      exact Steps.refl _)
    obtain ⟨T3, X3, q3, st3⟩ := cinst X0 hexec hown (wk W (.classLink "java/lang/String" 10 "java/lang/String")) (hy.mv X0.warmed.alike hh0).1 (g := (mkF m 8 #[.val (.ref x), .val (.ref y), .unset] [.ref y])) rfl (rest := []) rfl (hb hbytes d8)
    have hh3 := q3.trans hh0
    have c4 : Steps p.tables e below (s₁.setTop (entryFrame m #[.ref x, .ref y] 3)) (T3.setTop (mkF m 15 #[.val (.ref x), .val (.ref y), .unset] [.ref y])) := (c2.trans (st3 _ (Steps.refl _))).trans (by
      refine XS.ifNo X3.here hexec rfl (hb hbytes d11) rfl (i0_eq_f (by decide)) ?_
      refine XS.aloadN X3.here hexec rfl (hb hbytes d14) rfl rfl ?_
      exact Steps.refl _)
    obtain ⟨T5, X5, q5, st5⟩ := cself X3 hexec hown (wk W (.classLink "java/lang/String" 10 "java/lang/String")) (hy.mv X3.warmed.alike hh3).1 (g := (mkF m 15 #[.val (.ref x), .val (.ref y), .unset] [.ref y])) rfl (rest := []) rfl (hb hbytes d15)
    have hh5 := q5.trans hh3
    have c6 : Steps p.tables e below (s₁.setTop (entryFrame m #[.ref x, .ref y] 3)) (T5.setTop (mkF m 19 #[.val (.ref x), .val (.ref y), .val (.ref y)] [])) := (c4.trans (st5 _ (Steps.refl _))).trans (by
      refine XS.astoreN X5.here hexec rfl (hb hbytes d18) rfl rfl rfl ?_
      exact Steps.refl _)
    obtain ⟨T7, X7, q7, st7⟩ := X5.sget hexec hown (wk W (.fieldLink "java/lang/String" 38 "java/lang/String" "COMPACT_STRINGS" "Z")) s1 (fun _ _ h => by rw [hh5]; exact h) (g := (mkF m 19 #[.val (.ref x), .val (.ref y), .val (.ref y)] [])) rfl (hb hbytes d19)
    have hh7 := q7.trans hh5
    have c8 : Steps p.tables e below (s₁.setTop (entryFrame m #[.ref x, .ref y] 3)) (T7.setTop (mkF m 26 #[.val (.ref x), .val (.ref y), .val (.ref y)] [.ref x])) := (c6.trans (st7 _ (Steps.refl _))).trans (by
      refine XS.ifNo X7.here hexec rfl (hb hbytes d22) rfl (i0_eq_f hz) ?_
      refine XS.aloadN X7.here hexec rfl (hb hbytes d25) rfl rfl ?_
      exact Steps.refl _)
    obtain ⟨T9, X9, q9, st9⟩ := X7.hget hexec hown (wk W (.fieldLink "java/lang/String" 15 "java/lang/String" "coder" "B")) (hx.mv X7.warmed.alike hh7).2.2.1 (g := (mkF m 26 #[.val (.ref x), .val (.ref y), .val (.ref y)] [.ref x])) rfl (rest := []) rfl (hb hbytes d26)
    have hh9 := q9.trans hh7
    have c10 : Steps p.tables e below (s₁.setTop (entryFrame m #[.ref x, .ref y] 3)) (T9.setTop (mkF m 30 #[.val (.ref x), .val (.ref y), .val (.ref y)] [.ref y, .int cd])) := (c8.trans (st9 _ (Steps.refl _))).trans (by
      refine XS.aloadN X9.here hexec rfl (hb hbytes d29) rfl rfl ?_
      exact Steps.refl _)
    obtain ⟨T11, X11, q11, st11⟩ := X9.hget hexec hown (wk W (.fieldLink "java/lang/String" 15 "java/lang/String" "coder" "B")) (hy.mv X9.warmed.alike hh9).2.2.1 (g := (mkF m 30 #[.val (.ref x), .val (.ref y), .val (.ref y)] [.ref y, .int cd])) rfl (rest := [.int cd]) rfl (hb hbytes d30)
    have hh11 := q11.trans hh9
    have c12 : Steps p.tables e below (s₁.setTop (entryFrame m #[.ref x, .ref y] 3)) (T11.setTop (mkF m 33 #[.val (.ref x), .val (.ref y), .val (.ref y)] [.int cd', .int cd])) := c10.trans (st11 _ (Steps.refl _))
    by_cases hcd : cd = cd'
    · subst hcd
      have c13 : Steps p.tables e below (s₁.setTop (entryFrame m #[.ref x, .ref y] 3)) (T11.setTop (mkF m 37 #[.val (.ref x), .val (.ref y), .val (.ref y)] [.ref x])) := c12.trans (by
        refine XS.icmpNo X11.here hexec rfl (hb hbytes d33) rfl (ii_ne_f rfl) ?_
        refine XS.aloadN X11.here hexec rfl (hb hbytes d36) rfl rfl ?_
        exact Steps.refl _)
      obtain ⟨T14, X14, q14, st14⟩ := X11.hget hexec hown (wk W (.fieldLink "java/lang/String" 9 "java/lang/String" "value" "[B")) (hx.mv X11.warmed.alike hh11).2.1 (g := (mkF m 37 #[.val (.ref x), .val (.ref y), .val (.ref y)] [.ref x])) rfl (rest := []) rfl (hb hbytes d37)
      have hh14 := q14.trans hh11
      have c15 : Steps p.tables e below (s₁.setTop (entryFrame m #[.ref x, .ref y] 3)) (T14.setTop (mkF m 41 #[.val (.ref x), .val (.ref y), .val (.ref y)] [.ref y, .ref t])) := (c13.trans (st14 _ (Steps.refl _))).trans (by
        refine XS.aloadN X14.here hexec rfl (hb hbytes d40) rfl rfl ?_
        exact Steps.refl _)
      obtain ⟨T16, X16, q16, st16⟩ := X14.hget hexec hown (wk W (.fieldLink "java/lang/String" 9 "java/lang/String" "value" "[B")) (hy.mv X14.warmed.alike hh14).2.1 (g := (mkF m 41 #[.val (.ref x), .val (.ref y), .val (.ref y)] [.ref y, .ref t])) rfl (rest := [.ref t]) rfl (hb hbytes d41)
      have hh16 := q16.trans hh14
      have c17 : Steps p.tables e below (s₁.setTop (entryFrame m #[.ref x, .ref y] 3)) (T16.setTop (mkF m 44 #[.val (.ref x), .val (.ref y), .val (.ref y)] [.ref t', .ref t])) := c15.trans (st16 _ (Steps.refl _))
      obtain ⟨v18, T18, X18, E18, g18⟩ := X16.callS hexec (LEq.law l t V t' V') hown (wks W (staticW "java/lang/String" 541 LEq.yN)) (wk W LEq.tab) (W := 0) (Nat.le_of_ble_eq_true rfl) (Nat.le_of_ble_eq_true rfl) (Nat.le_refl _) (Nat.le_refl _) (g := (mkF m 44 #[.val (.ref x), .val (.ref y), .val (.ref y)] [.ref t', .ref t])) rfl (by rw [hml]; rfl) c17 (argsL := [.ref t, .ref t']) (rest := []) rfl rfl (by show 2 * 0 + 0 ≤ _; decide) (hb hbytes d44) (⟨rfl, hx.2.2.2.1.mv X16.warmed.alike hh16, hx.2.2.2.2.1.ty, hy.2.2.2.1.mv X16.warmed.alike hh16, hy.2.2.2.2.1.ty⟩)
      obtain ⟨v, rfl, q18, hv⟩ := E18
      have iff := Cod.eqv hx.2.2.2.2.1 hy.2.2.2.2.1 hx.2.2.2.2.2 hy.2.2.2.2.2
      rcases hv with ⟨rfl, he⟩ | ⟨rfl, he⟩
      · have c19 : Steps p.tables e below (s₁.setTop (entryFrame m #[.ref x, .ref y] 3)) (T18.setTop (mkF m 55 #[.val (.ref x), .val (.ref y), .val (.ref y)] [.int 1])) := Steps.trans g18 (by
          refine XS.ifNo X18.here hexec rfl (hb hbytes d47) rfl (i0_eq_f (by decide)) ?_
          refine iconstV X18.here hexec rfl 1 (hb hbytes d50) (by decide) ?_
          refine XS.goto X18.here hexec rfl (pc0 := 51) rfl (hb hbytes d51) (by decide) rfl ?_
          exact Steps.refl _)
        exact ⟨T18, some (.int 1), _, _, _, X18, rfl, rfl, rfl, (fun h => by cases h), ⟨1, rfl, q18.trans hh16, Or.inl ⟨rfl, iff.mp he⟩⟩, fun fs hl => c19.trans (X18.ireturnOut hexec hret rfl (Or.inr (Or.inl rfl)) (hb hbytes d55) hl)⟩
      · have c19 : Steps p.tables e below (s₁.setTop (entryFrame m #[.ref x, .ref y] 3)) (T18.setTop (mkF m 55 #[.val (.ref x), .val (.ref y), .val (.ref y)] [.int 0])) := Steps.trans g18 (by
          refine XS.ifYes X18.here hexec rfl (pc0 := 47) rfl (hb hbytes d47) rfl (i0_eq_t rfl) (by decide) rfl ?_
          refine iconstV X18.here hexec rfl 0 (hb hbytes d54) (by decide) ?_
          exact Steps.refl _)
        exact ⟨T18, some (.int 0), _, _, _, X18, rfl, rfl, rfl, (fun h => by cases h), ⟨0, rfl, q18.trans hh16, Or.inr ⟨rfl, fun q => he (iff.mpr q)⟩⟩, fun fs hl => c19.trans (X18.ireturnOut hexec hret rfl (Or.inr (Or.inl rfl)) (hb hbytes d55) hl)⟩
    · have c13 : Steps p.tables e below (s₁.setTop (entryFrame m #[.ref x, .ref y] 3)) (T11.setTop (mkF m 55 #[.val (.ref x), .val (.ref y), .val (.ref y)] [.int 0])) := c12.trans (by
        refine XS.icmpYes X11.here hexec rfl (pc0 := 33) rfl (hb hbytes d33) rfl (ii_ne_t hcd) (by decide) rfl ?_
        refine iconstV X11.here hexec rfl 0 (hb hbytes d54) (by decide) ?_
        exact Steps.refl _)
      exact ⟨T11, some (.int 0), _, _, _, X11, rfl, rfl, rfl, (fun h => by cases h), ⟨0, rfl, hh11, Or.inr ⟨rfl, Cod.dif hx.2.2.2.2.1 hy.2.2.2.2.1 hcd⟩⟩, fun fs hl => c13.trans (X11.ireturnOut hexec hret rfl (Or.inr (Or.inl rfl)) (hb hbytes d55) hl)⟩
theorem pays {l : Launch} {R : Room} {p : Program} {e : Env} {below : List Frame} {s : State} {sargs : Array Value} {len W : Nat} (x t : Addr) (V : Cell) (cd : Int32) (n : Nat) (f : Nat → Int32) (y t' : Addr) (V' : Cell) (cd' : Int32) (k : Nat) (g : Nat → Int32) (z : Int32) (htab : tab.before sargs s = true) (hfr : 2 ≤ R.frames) (hlo : W + 28 ≤ R.locals) :
    Back l R p e below s sargs yN len W (fun A₁ a₁ => A₁.cells + 0 ≤ R.cells ∧ A₁.slots + 0 ≤ R.slots ∧ P x t V cd n f y t' V' cd' k g z a₁ A₁.U) (fun A₁ _ v₁ B₁ => Says01 (SameT n f k g) v₁ A₁.U B₁.U ∧ B₁.locs = A₁.locs ++ [] ∧ B₁.cells = A₁.cells + 0 ∧ B₁.slots = A₁.slots + 0) :=
  (law l x t V cd n f y t' V' cd' k g z).pays htab hfr (by omega)
end SEq
end StrChars
namespace StrChars.Road
open Jvm Sem ClassFile Op Lib Jvm.Stand Jvm.Free Jvm.Free.XT
open Jvm.Lib.Cold (StaticIs)
/-- the words of String.equals(Object) -/
abbrev wordsEq : List Jvm.Cond := [.code SEq.yN SEq.yB 3 (some .boolean), .initialized ST, .classLink ST 10 ST, .fieldLink ST 38 ST "COMPACT_STRINGS" "Z", .fieldLink ST 15 ST "coder" "B", .fieldLink ST 9 ST "value" "[B", .methodLink ST 541 LEq.yN, .static LEq.yN, .code LEq.yN LEq.yB 3 (some .boolean), .initialized "java/lang/StringLatin1"]
theorem tabEq_of {a : Array Value} {s : State} (h : ∀ w ∈ wordsEq, w.before a s = true) : SEq.tab.before a s = true := by
  have hl : LEq.tab.before a s = true := unparts (wk h (.code LEq.yN LEq.yB 3 (some .boolean))) (wks h (.initialized LEq.yN.cls :: LEq.site))
  have q := consq hl h
  exact unparts (wk q (.code SEq.yN SEq.yB 3 (some .boolean))) (wks q (.initialized SEq.yN.cls :: SEq.site))
theorem movedEq {Z s : State} {a0 args : Array Value} (hZ : Z.Warmed39 s.vm) (hw : ∀ d ∈ wordsEq, d.before a0 Z = true) : ∀ d ∈ wordsEq, d.before args s = true := fun d hd => by
  have t : ∀ d ∈ wordsEq, (d.onTables && d.keepsFace) = true := by decide +kernel
  exact RoadKit.mv hZ (hw d hd) (t d hd)
/-- the road's facts of a String, as the laws ask it -/
theorem txt_of {Z U : State} {a0 : Array Value} {kI : Nat} (wi : (Jvm.Cond.instantiable ST kI).before a0 Z = true) (al : Z.vm.Alike U.vm) {x t : Addr} {kb : ClassId} {cs : List Int32} {cd N2 : Int32} {vs : List Value} (E : RoadKit.Exa Z U.heap x ST) (V : RoadKit.Fld Z U.heap x ST "value" "[B" (.ref t)) (C : RoadKit.Fld Z U.heap x ST "coder" "B" (.int cd)) (K : RoadKit.Arv Z U.heap t kb .byte N2 vs (.int 0)) (hc : CodA cs cd N2 vs) (hb : ∀ c ∈ cs, ¬ c < 0 ∧ ¬ (65535 : Int32) < c) (l2 : cs.length ≤ 4000) :
    ∃ A, Txt x t A cd cs.length (fun j => cs.getD j 0) U := by
  obtain ⟨A, K1, K2, K3, K4, K5, K6⟩ := K
  have hcod := hc.cod (by omega) K3 K5
  obtain ⟨D, fV, fC, hB, F1, F2, g1, g2, -, -⟩ := strObj wi al E V C
  exact ⟨A, ⟨_, hB.2.2.1, D, hB.1, rfl, by cases q : D.vm <;> first | rfl | exact absurd q (hB.2.1.2 _)⟩, Has.of hB F1 g1, Has.of hB F2 g2, ⟨K1.1, State.isArrayOf_alike al K1.2.1, K1.2.2, by rcases hcod with ⟨-, q, -⟩ | ⟨-, q, -⟩ <;> omega⟩, hcod, fun j hj => by
    have e : cs.getD j 0 = cs[j] := by simp [List.getD_eq_getElem?_getD, hj]
    show ¬ cs.getD j 0 < 0 ∧ ¬ 65535 < cs.getD j 0
    rw [e]; exact hb _ (List.getElem_mem _)⟩
theorem same_list (cs ds : List Int32) : SameT cs.length (fun j => cs.getD j 0) ds.length (fun j => ds.getD j 0) ↔ cs = ds := by
  constructor
  · rintro ⟨e, q⟩
    refine List.ext_getElem e fun j h1 h2 => ?_
    have := q j h1
    simpa [List.getD_eq_getElem?_getD, h1, h2] using this
  · rintro rfl
    exact ⟨rfl, fun _ _ => rfl⟩
/-- **equals(Object) OF TWO SUCH STRINGS**: 1 just where the chars are the same -/
theorem eqW {p : Program} {l : Launch} {e : Env} {R : Room} {s : State} {args : Array Value} {below : List Frame} {len W : Nat} {Z : State} {a0 : Array Value} {h : Heap} (hZ : Z.Warmed39 s.vm) (hw : ∀ d ∈ wordsEq, d.before a0 Z = true) {kI : Nat} (wi : (Jvm.Cond.instantiable ST kI).before a0 Z = true)
    {x t : Addr} {kb : ClassId} {cs : List Int32} {cd N2 : Int32} {vs : List Value} (E : RoadKit.Exa Z h x ST) (V : RoadKit.Fld Z h x ST "value" "[B" (.ref t)) (C : RoadKit.Fld Z h x ST "coder" "B" (.int cd)) (K : RoadKit.Arv Z h t kb .byte N2 vs (.int 0)) (hc : CodA cs cd N2 vs) (hb : ∀ c ∈ cs, ¬ c < 0 ∧ ¬ (65535 : Int32) < c) (l2 : cs.length ≤ 4000)
    {y t' : Addr} {kb' : ClassId} {ds : List Int32} {cd' N2' : Int32} {vs' : List Value} (E' : RoadKit.Exa Z h y ST) (V' : RoadKit.Fld Z h y ST "value" "[B" (.ref t')) (C' : RoadKit.Fld Z h y ST "coder" "B" (.int cd')) (K' : RoadKit.Arv Z h t' kb' .byte N2' vs' (.int 0)) (hc' : CodA ds cd' N2' vs') (hb' : ∀ c ∈ ds, ¬ c < 0 ∧ ¬ (65535 : Int32) < c) (l2' : ds.length ≤ 4000)
    {z : Int32} (S : RoadKit.Sta Z h ST "COMPACT_STRINGS" "Z" (.int z)) (hz : ¬ z = 0) (hfr : 2 ≤ R.frames) (hlo : W + 28 ≤ R.locals) :
    Back l R p e below s args (⟨"java/lang/String", "equals", "(Ljava/lang/Object;)Z"⟩ : MethodName) len W (fun P a => a = #[.ref x, .ref y] ∧ P.U.heap = h ∧ P.cells + 0 ≤ R.cells ∧ P.slots + 0 ≤ R.slots)
      (fun P _ v B => ∃ L, (((v = some (.int 1) ∧ cs = ds) ∨ (v = some (.int 0) ∧ ¬ cs = ds)) ∧ L = [] ∧ B.U.heap = h) ∧ B.locs = P.locs ++ L ∧ B.cells = P.cells + 0 ∧ B.slots = P.slots + 0) := by
  intro m meth c P g ig mk a X hg hsize hdg hW hn hp'
  obtain ⟨rfl, rfl, r1, r2⟩ := hp'
  have al : Z.vm.Alike P.U.vm := hZ.alike.trans X.warmed.alike
  obtain ⟨A, hx⟩ := txt_of wi al E V C K hc hb l2
  obtain ⟨A', hy⟩ := txt_of wi al E' V' C' K' hc' hb' l2'
  obtain ⟨v, B, X', ⟨⟨w, hv, hh, hq⟩, hl, hk, hs⟩, st⟩ := SEq.pays x t A cd cs.length (fun j => cs.getD j 0) y t' A' cd' ds.length (fun j => ds.getD j 0) z (tabEq_of (movedEq hZ hw)) hfr hlo m meth c P g ig mk _ X hg hsize hdg hW hn ⟨r1, r2, rfl, hx, hy, sta_is al S, hz⟩
  refine ⟨v, B, X', ⟨[], ⟨?_, rfl, hh⟩, hl, hk, hs⟩, st⟩
  rcases hq with ⟨rfl, q⟩ | ⟨rfl, q⟩
  · exact Or.inl ⟨hv, (same_list cs ds).mp q⟩
  · exact Or.inr ⟨hv, fun e => q ((same_list cs ds).mpr e)⟩
end StrChars.Road
namespace StrChars.Road
open Jvm Sem ClassFile Op Lib Jvm.Stand Jvm.Free Jvm.Free.XT
open Jvm.Lib.Cold (StaticIs)
/-- what backV says of its String, as the contracts of this text ask it: cs's low bytes, coder 0 -/
theorem codOf {cs : List Int32} {n : Nat} (hn : cs.length = n) (hb : ∀ c ∈ cs, ¬ 255 < c) : CodA cs 0 (Int32.ofNat n) ((cs.map lo8).map Value.int) := Or.inl ⟨rfl, by rw [hn], by simp [List.map_map, Function.comp_def], hb⟩
end StrChars.Road
end Jvm.Pilot.@@N@@
namespace Jvm.Pilot.@@N@@
open Jvm Jvm.ClassFile Sem Op Lib Jvm.Free Jvm.Stand Jvm.LawKit Jvm.RoadKit Bundle Jvm.Pilot.@@N@@.Jvm.D
theorem own_fill : ∀ (vs : List Value) (acc : Array Slot), (∀ v ∈ vs, v.category ≠ 2) → vs.foldl (fun acc v => if v.category = 2 then (acc.push (Slot.val v)).push .second else acc.push (.val v)) acc = acc ++ (vs.map Slot.val).toArray
  | [], acc, _ => by simp
  | v :: vs, acc, h => by
    rw [List.foldl_cons, if_neg (h v (by simp)), own_fill vs _ (fun w hw => h w (by simp [hw]))]
    simp
theorem own_entry (m : MethodId) (vs : List Value) (n : Nat) (hv : ∀ v ∈ vs, v.category ≠ 2) {ls : Array Slot} (hl : (vs.map Slot.val ++ List.replicate (n - vs.length) Slot.unset).toArray = ls) : entryFrame m vs.toArray n = mkF m 0 ls [] := by
  have e : argsToLocals vs.toArray n = (vs.map Slot.val ++ List.replicate (n - vs.length) Slot.unset).toArray := by
    unfold argsToLocals
    simp only [List.foldl_toArray']
    rw [own_fill vs #[] hv]
    simp
  unfold entryFrame
  rw [e, hl]
section OwnLayer
variable {p : Program} {l : Launch} {e : Env} {R : Room} {s : State} {m : MethodId} {args : Array Value} {below : List Frame} {meth : Method} {c : Code}
variable {Z : State} {a0 : Array Value} {EL : List (String × Nat)} {L0 : List Loc} {own nm : String} {bs : ByteArray} {ml : Nat} {rt : Option FieldType}
variable {T : State} {h : Heap} {SF : List Addr} {k j : Nat} {Q : Option Value → Heap → List Addr → Prop}
/-- where a walk stands: its frame's constants, the heap h, the cells SF that may be written, k new cells, j new slots; the tables may have interned meanwhile -/
def Owk (p : Program) (l : Launch) (e : Env) (R : Room) (s : State) (m : MethodId) (args : Array Value) (below : List Frame) (meth : Method) (c : Code) (Z : State) (a0 : Array Value) (EL : List (String × Nat)) (L0 : List Loc) (own nm : String) (bs : ByteArray) (ml : Nat) (rt : Option FieldType) (T : State) (h : Heap) (SF : List Addr) (k j : Nat) : Prop :=
  (p.tables.exec = Jvm.exec ∧ EW Z a0 EL ∧ s.vm.findClass own = some m.cls ∧ c.code = bs ∧ c.maxLocals = ml ∧ meth.sig.returnType = rt ∧ meth.locks = false ∧ meth.name = nm ∧ s.vm.MethodsKnown ∧ s.vm.FramesKnown below) ∧
  T.heap = h ∧ (∀ x ∈ SF, x < h.size) ∧ k ≤ R.cells ∧ j ≤ R.slots ∧
  ∃ (vm0 : Vm) (k0 : Nat), Stand p l e R (s.setVm vm0) m args below meth c T L0 k j ∧ Z.Warmed39 vm0 ∧ s.Since vm0 k0 ∧ k0 ≤ h.size ∧ CHr Z EL s.vm s.heap vm0 h ∧ ∀ x ∈ SF, Safe Z EL vm0 h x
/-- from the frame g at T the body comes to its return, with Q of what it returns and the heap then -/
def Ogo (p : Program) (l : Launch) (e : Env) (R : Room) (s : State) (m : MethodId) (args : Array Value) (below : List Frame) (meth : Method) (c : Code) (Z : State) (a0 : Array Value) (EL : List (String × Nat)) (L0 : List Loc) (own nm : String) (bs : ByteArray) (ml : Nat) (rt : Option FieldType) (T : State) (g : JFrame) (Q : Option Value → Heap → List Addr → Prop) : Prop :=
  ∃ (T' : State) (v : Option Value) (h' : Heap) (SF : List Addr) (k j : Nat), Owk p l e R s m args below meth c Z a0 EL L0 own nm bs ml rt T' h' SF k j ∧ (rt = none → v = none) ∧ Q v h' SF ∧
    ∀ fs, (∀ (f : JFrame) (acts : List Action), f.method = m → f.locked = none → f.entered = [] → (doReturn e (T'.setTop f) acts v).1 = T'.setFrames fs) → Steps p.tables e below (T.setTop g) (T'.setFrames fs)
theorem own_step {T2 : State} {g g2 : JFrame} (hs : ∀ t, Steps p.tables e below (T2.setTop g2) t → Steps p.tables e below (T.setTop g) t) (K : Ogo p l e R s m args below meth c Z a0 EL L0 own nm bs ml rt T2 g2 Q) : Ogo p l e R s m args below meth c Z a0 EL L0 own nm bs ml rt T g Q := by
  obtain ⟨T', v, h', SF', k', j', W, hv, hq, st⟩ := K
  exact ⟨T', v, h', SF', k', j', W, hv, hq, fun fs hl => hs _ (st fs hl)⟩
theorem Owk.at (W : Owk p l e R s m args below meth c Z a0 EL L0 own nm bs ml rt T h SF k j) : At T m c below := by obtain ⟨-, -, -, -, -, vm0, k0, X, -⟩ := W; exact X.here
theorem Owk.ex (W : Owk p l e R s m args below meth c Z a0 EL L0 own nm bs ml rt T h SF k j) : p.tables.exec = Jvm.exec := W.1.1
theorem Owk.hb (W : Owk p l e R s m args below meth c Z a0 EL L0 own nm bs ml rt T h SF k j) {pc : Nat} {r : Except ClassFile.DecodeError (ClassFile.Instr × Nat)} (h2 : decode bs pc = r) : decode c.code pc = r := by rw [W.1.2.2.2.1]; exact h2
theorem Owk.sf (W : Owk p l e R s m args below meth c Z a0 EL L0 own nm bs ml rt T h SF k j) {SF' : List Addr} (q : ∀ x ∈ SF', x ∈ SF) : Owk p l e R s m args below meth c Z a0 EL L0 own nm bs ml rt T h SF' k j := by
  obtain ⟨w1, w2, w3, w4, w5, vm0, k0, X, w6, w7, w8, w9, w10⟩ := W
  exact ⟨w1, w2, fun x hx => w3 x (q x hx), w4, w5, vm0, k0, X, w6, w7, w8, w9, fun x hx => w10 x (q x hx)⟩
theorem Owk.up (W : Owk p l e R s m args below meth c Z a0 EL L0 own nm bs ml rt T h SF k j) {k' j' : Nat} (q1 : k ≤ k') (q2 : j ≤ j') (r1 : k' ≤ R.cells) (r2 : j' ≤ R.slots) : Owk p l e R s m args below meth c Z a0 EL L0 own nm bs ml rt T h SF k' j' := by
  obtain ⟨w1, w2, w3, w4, w5, vm0, k0, X, w6, w7, w8, w9, w10⟩ := W
  exact ⟨w1, w2, w3, r1, r2, vm0, k0, X.mono q1 q2, w6, w7, w8, w9, w10⟩
theorem Owk.grown (W : Owk p l e R s m args below meth c Z a0 EL L0 own nm bs ml rt T h SF k j) : s.heap.size ≤ h.size := by
  obtain ⟨-, -, -, -, -, vm0, k0, -, -, -, -, w9, -⟩ := W; exact w9.2.1
theorem Owk.kn (W : Owk p l e R s m args below meth c Z a0 EL L0 own nm bs ml rt T h SF k j) {vm0 : Vm} {k0 : Nat} (hS : s.Since vm0 k0) : (s.setVm vm0).vm.MethodsKnown ∧ (s.setVm vm0).vm.FramesKnown below :=
  ⟨Vm.MethodsKnown.alikeC hS.1.alike W.1.2.2.2.2.2.2.2.2.1, Vm.FramesKnown.alikeC hS.1.alike W.1.2.2.2.2.2.2.2.2.2⟩
/-! plain steps -/
section Plain
variable {pc pc' : Nat} {ls : Array Slot} {st : List Value}
theorem g_iloadN (W : Owk p l e R s m args below meth c Z a0 EL L0 own nm bs ml rt T h SF k j) {i : Fin 4} {v : Int32} (hd : decode bs pc = .ok (.iload_n i, 1)) (hp : pc' = pc + 1) (hl : ls[i.val]? = some (.val (.int v))) (K : Ogo p l e R s m args below meth c Z a0 EL L0 own nm bs ml rt T (mkF m pc' ls (.int v :: st)) Q) : Ogo p l e R s m args below meth c Z a0 EL L0 own nm bs ml rt T (mkF m pc ls st) Q := by
  subst hp; exact own_step (fun t q => XS.iloadN W.at W.ex rfl (W.hb hd) hl q) K
theorem g_iload (W : Owk p l e R s m args below meth c Z a0 EL L0 own nm bs ml rt T h SF k j) {i : Nat} {v : Int32} (hd : decode bs pc = .ok (.iload i, 2)) (hp : pc' = pc + 2) (hl : ls[i]? = some (.val (.int v))) (K : Ogo p l e R s m args below meth c Z a0 EL L0 own nm bs ml rt T (mkF m pc' ls (.int v :: st)) Q) : Ogo p l e R s m args below meth c Z a0 EL L0 own nm bs ml rt T (mkF m pc ls st) Q := by
  subst hp; exact own_step (fun t q => XS.iload W.at W.ex rfl (W.hb hd) hl q) K
theorem g_aloadN (W : Owk p l e R s m args below meth c Z a0 EL L0 own nm bs ml rt T h SF k j) {i : Fin 4} {v : Value} (hd : decode bs pc = .ok (.aload_n i, 1)) (hp : pc' = pc + 1) (hl : ls[i.val]? = some (.val v)) (hv : v.isRef = true) (K : Ogo p l e R s m args below meth c Z a0 EL L0 own nm bs ml rt T (mkF m pc' ls (v :: st)) Q) : Ogo p l e R s m args below meth c Z a0 EL L0 own nm bs ml rt T (mkF m pc ls st) Q := by
  subst hp; exact own_step (fun t q => XS.aloadN W.at W.ex rfl (W.hb hd) hl hv q) K
theorem g_aload (W : Owk p l e R s m args below meth c Z a0 EL L0 own nm bs ml rt T h SF k j) {i : Nat} {v : Value} (hd : decode bs pc = .ok (.aload i, 2)) (hp : pc' = pc + 2) (hl : ls[i]? = some (.val v)) (hv : v.isRef = true) (K : Ogo p l e R s m args below meth c Z a0 EL L0 own nm bs ml rt T (mkF m pc' ls (v :: st)) Q) : Ogo p l e R s m args below meth c Z a0 EL L0 own nm bs ml rt T (mkF m pc ls st) Q := by
  subst hp; exact own_step (fun t q => XS.aload W.at W.ex rfl (W.hb hd) hl hv q) K
theorem g_iconst (W : Owk p l e R s m args below meth c Z a0 EL L0 own nm bs ml rt T h SF k j) {i : Int} {v : Int32} (hd : decode bs pc = .ok (.iconst i, 1)) (hp : pc' = pc + 1) (hv : Int32.ofInt i = v) (K : Ogo p l e R s m args below meth c Z a0 EL L0 own nm bs ml rt T (mkF m pc' ls (.int v :: st)) Q) : Ogo p l e R s m args below meth c Z a0 EL L0 own nm bs ml rt T (mkF m pc ls st) Q := by
  subst hp hv; exact own_step (fun t q => XS.iconst W.at W.ex rfl (W.hb hd) q) K
theorem g_bipush (W : Owk p l e R s m args below meth c Z a0 EL L0 own nm bs ml rt T h SF k j) {i : Int} {v : Int32} (hd : decode bs pc = .ok (.bipush i, 2)) (hp : pc' = pc + 2) (hv : (Int8.ofInt i).toInt32 = v) (K : Ogo p l e R s m args below meth c Z a0 EL L0 own nm bs ml rt T (mkF m pc' ls (.int v :: st)) Q) : Ogo p l e R s m args below meth c Z a0 EL L0 own nm bs ml rt T (mkF m pc ls st) Q := by
  subst hp hv; exact own_step (fun t q => XS.bipush W.at W.ex rfl (W.hb hd) q) K
theorem g_sipush (W : Owk p l e R s m args below meth c Z a0 EL L0 own nm bs ml rt T h SF k j) {i : Int} {v : Int32} (hd : decode bs pc = .ok (.sipush i, 3)) (hp : pc' = pc + 3) (hv : (Int16.ofInt i).toInt32 = v) (K : Ogo p l e R s m args below meth c Z a0 EL L0 own nm bs ml rt T (mkF m pc' ls (.int v :: st)) Q) : Ogo p l e R s m args below meth c Z a0 EL L0 own nm bs ml rt T (mkF m pc ls st) Q := by
  subst hp hv; exact own_step (fun t q => XS.sipush W.at W.ex rfl (W.hb hd) q) K
theorem g_aconst_null (W : Owk p l e R s m args below meth c Z a0 EL L0 own nm bs ml rt T h SF k j) (hd : decode bs pc = .ok (.aconst_null, 1)) (hp : pc' = pc + 1) (K : Ogo p l e R s m args below meth c Z a0 EL L0 own nm bs ml rt T (mkF m pc' ls (.null :: st)) Q) : Ogo p l e R s m args below meth c Z a0 EL L0 own nm bs ml rt T (mkF m pc ls st) Q := by
  subst hp; exact own_step (fun t q => XS.aconstNull W.at W.ex rfl (W.hb hd) q) K
theorem g_istoreN (W : Owk p l e R s m args below meth c Z a0 EL L0 own nm bs ml rt T h SF k j) {i : Fin 4} {v : Int32} {ls' : Array Slot} (hd : decode bs pc = .ok (.istore_n i, 1)) (hp : pc' = pc + 1) (hl : storeLocals ls i.val (.int v) = some ls') (K : Ogo p l e R s m args below meth c Z a0 EL L0 own nm bs ml rt T (mkF m pc' ls' st) Q) : Ogo p l e R s m args below meth c Z a0 EL L0 own nm bs ml rt T (mkF m pc ls (.int v :: st)) Q := by
  subst hp; exact own_step (fun t q => XS.istoreN W.at W.ex rfl (W.hb hd) rfl hl q) K
theorem g_istore (W : Owk p l e R s m args below meth c Z a0 EL L0 own nm bs ml rt T h SF k j) {i : Nat} {v : Int32} {ls' : Array Slot} (hd : decode bs pc = .ok (.istore i, 2)) (hp : pc' = pc + 2) (hl : storeLocals ls i (.int v) = some ls') (K : Ogo p l e R s m args below meth c Z a0 EL L0 own nm bs ml rt T (mkF m pc' ls' st) Q) : Ogo p l e R s m args below meth c Z a0 EL L0 own nm bs ml rt T (mkF m pc ls (.int v :: st)) Q := by
  subst hp; exact own_step (fun t q => XS.istore W.at W.ex rfl (W.hb hd) rfl hl q) K
theorem g_astoreN (W : Owk p l e R s m args below meth c Z a0 EL L0 own nm bs ml rt T h SF k j) {i : Fin 4} {v : Value} {ls' : Array Slot} (hd : decode bs pc = .ok (.astore_n i, 1)) (hp : pc' = pc + 1) (hv : v.isRef = true) (hl : storeLocals ls i.val v = some ls') (K : Ogo p l e R s m args below meth c Z a0 EL L0 own nm bs ml rt T (mkF m pc' ls' st) Q) : Ogo p l e R s m args below meth c Z a0 EL L0 own nm bs ml rt T (mkF m pc ls (v :: st)) Q := by
  subst hp; exact own_step (fun t q => XS.astoreN W.at W.ex rfl (W.hb hd) rfl hv hl q) K
theorem g_astore (W : Owk p l e R s m args below meth c Z a0 EL L0 own nm bs ml rt T h SF k j) {i : Nat} {v : Value} {ls' : Array Slot} (hd : decode bs pc = .ok (.astore i, 2)) (hp : pc' = pc + 2) (hv : v.isRef = true) (hl : storeLocals ls i v = some ls') (K : Ogo p l e R s m args below meth c Z a0 EL L0 own nm bs ml rt T (mkF m pc' ls' st) Q) : Ogo p l e R s m args below meth c Z a0 EL L0 own nm bs ml rt T (mkF m pc ls (v :: st)) Q := by
  subst hp; exact own_step (fun t q => XS.astore W.at W.ex rfl (W.hb hd) rfl hv hl q) K
theorem g_iinc (W : Owk p l e R s m args below meth c Z a0 EL L0 own nm bs ml rt T h SF k j) {i : Nat} {d : Int} {x v : Int32} {ls' : Array Slot} (hd : decode bs pc = .ok (.iinc i d, 3)) (hp : pc' = pc + 3) (hl : ls[i]? = some (.val (.int x))) (hv : x + Int32.ofInt d = v) (hl' : storeLocals ls i (.int v) = some ls') (K : Ogo p l e R s m args below meth c Z a0 EL L0 own nm bs ml rt T (mkF m pc' ls' st) Q) : Ogo p l e R s m args below meth c Z a0 EL L0 own nm bs ml rt T (mkF m pc ls st) Q := by
  subst hp hv; exact own_step (fun t q => XS.iinc W.at W.ex rfl (W.hb hd) hl hl' q) K
theorem g_goto (W : Owk p l e R s m args below meth c Z a0 EL L0 own nm bs ml rt T h SF k j) {o : Int} (hd : decode bs pc = .ok (.goto o, 3)) (ho : 0 ≤ (pc : Int) + o) (hp : ((pc : Int) + o).toNat = pc') (K : Ogo p l e R s m args below meth c Z a0 EL L0 own nm bs ml rt T (mkF m pc' ls st) Q) : Ogo p l e R s m args below meth c Z a0 EL L0 own nm bs ml rt T (mkF m pc ls st) Q := by
  exact own_step (fun t q => XS.goto W.at W.ex rfl (pc0 := pc) rfl (W.hb hd) ho hp q) K
theorem g_dup (W : Owk p l e R s m args below meth c Z a0 EL L0 own nm bs ml rt T h SF k j) {x : Value} (hd : decode bs pc = .ok (.dup, 1)) (hp : pc' = pc + 1) (hc : x.category = 1) (K : Ogo p l e R s m args below meth c Z a0 EL L0 own nm bs ml rt T (mkF m pc' ls (x :: x :: st)) Q) : Ogo p l e R s m args below meth c Z a0 EL L0 own nm bs ml rt T (mkF m pc ls (x :: st)) Q := by
  subst hp; exact own_step (fun t q => XS.dup W.at W.ex rfl (W.hb hd) rfl hc q) K
theorem g_pop (W : Owk p l e R s m args below meth c Z a0 EL L0 own nm bs ml rt T h SF k j) {x : Value} (hd : decode bs pc = .ok (.pop, 1)) (hp : pc' = pc + 1) (hc : x.category = 1) (K : Ogo p l e R s m args below meth c Z a0 EL L0 own nm bs ml rt T (mkF m pc' ls st) Q) : Ogo p l e R s m args below meth c Z a0 EL L0 own nm bs ml rt T (mkF m pc ls (x :: st)) Q := by
  subst hp; exact own_step (fun t q => XT.pop W.at W.ex rfl (W.hb hd) rfl hc q) K
theorem g_iadd (W : Owk p l e R s m args below meth c Z a0 EL L0 own nm bs ml rt T h SF k j) {x y : Int32} (hd : decode bs pc = .ok (.iadd, 1)) (hp : pc' = pc + 1) (K : Ogo p l e R s m args below meth c Z a0 EL L0 own nm bs ml rt T (mkF m pc' ls (.int (x + y) :: st)) Q) : Ogo p l e R s m args below meth c Z a0 EL L0 own nm bs ml rt T (mkF m pc ls (.int y :: .int x :: st)) Q := by
  subst hp; exact own_step (fun t q => XS.iadd W.at W.ex rfl (W.hb hd) rfl q) K
theorem g_isub (W : Owk p l e R s m args below meth c Z a0 EL L0 own nm bs ml rt T h SF k j) {x y : Int32} (hd : decode bs pc = .ok (.isub, 1)) (hp : pc' = pc + 1) (K : Ogo p l e R s m args below meth c Z a0 EL L0 own nm bs ml rt T (mkF m pc' ls (.int (x - y) :: st)) Q) : Ogo p l e R s m args below meth c Z a0 EL L0 own nm bs ml rt T (mkF m pc ls (.int y :: .int x :: st)) Q := by
  subst hp; exact own_step (fun t q => XS.isub W.at W.ex rfl (W.hb hd) rfl q) K
theorem g_iand (W : Owk p l e R s m args below meth c Z a0 EL L0 own nm bs ml rt T h SF k j) {x y : Int32} (hd : decode bs pc = .ok (.iand, 1)) (hp : pc' = pc + 1) (K : Ogo p l e R s m args below meth c Z a0 EL L0 own nm bs ml rt T (mkF m pc' ls (.int (x &&& y) :: st)) Q) : Ogo p l e R s m args below meth c Z a0 EL L0 own nm bs ml rt T (mkF m pc ls (.int y :: .int x :: st)) Q := by
  subst hp; exact own_step (fun t q => XS.iand W.at W.ex rfl (W.hb hd) rfl q) K
theorem g_ior (W : Owk p l e R s m args below meth c Z a0 EL L0 own nm bs ml rt T h SF k j) {x y : Int32} (hd : decode bs pc = .ok (.ior, 1)) (hp : pc' = pc + 1) (K : Ogo p l e R s m args below meth c Z a0 EL L0 own nm bs ml rt T (mkF m pc' ls (.int (x ||| y) :: st)) Q) : Ogo p l e R s m args below meth c Z a0 EL L0 own nm bs ml rt T (mkF m pc ls (.int y :: .int x :: st)) Q := by
  subst hp; exact own_step (fun t q => XT.ior W.at W.ex rfl (W.hb hd) rfl q) K
theorem g_imul (W : Owk p l e R s m args below meth c Z a0 EL L0 own nm bs ml rt T h SF k j) {x y : Int32} (hd : decode bs pc = .ok (.imul, 1)) (hp : pc' = pc + 1) (K : Ogo p l e R s m args below meth c Z a0 EL L0 own nm bs ml rt T (mkF m pc' ls (.int (x * y) :: st)) Q) : Ogo p l e R s m args below meth c Z a0 EL L0 own nm bs ml rt T (mkF m pc ls (.int y :: .int x :: st)) Q := by
  subst hp; exact own_step (fun t q => XS.imul W.at W.ex rfl (W.hb hd) rfl q) K
theorem g_ishl (W : Owk p l e R s m args below meth c Z a0 EL L0 own nm bs ml rt T h SF k j) {x y : Int32} (hd : decode bs pc = .ok (.ishl, 1)) (hp : pc' = pc + 1) (K : Ogo p l e R s m args below meth c Z a0 EL L0 own nm bs ml rt T (mkF m pc' ls (.int (x <<< (y &&& 31)) :: st)) Q) : Ogo p l e R s m args below meth c Z a0 EL L0 own nm bs ml rt T (mkF m pc ls (.int y :: .int x :: st)) Q := by
  subst hp; exact own_step (fun t q => XT.ishl W.at W.ex rfl (W.hb hd) rfl q) K
theorem g_ishr (W : Owk p l e R s m args below meth c Z a0 EL L0 own nm bs ml rt T h SF k j) {x y : Int32} (hd : decode bs pc = .ok (.ishr, 1)) (hp : pc' = pc + 1) (K : Ogo p l e R s m args below meth c Z a0 EL L0 own nm bs ml rt T (mkF m pc' ls (.int (x >>> (y &&& 31)) :: st)) Q) : Ogo p l e R s m args below meth c Z a0 EL L0 own nm bs ml rt T (mkF m pc ls (.int y :: .int x :: st)) Q := by
  subst hp; exact own_step (fun t q => XT.ishr W.at W.ex rfl (W.hb hd) rfl q) K
theorem g_iushr (W : Owk p l e R s m args below meth c Z a0 EL L0 own nm bs ml rt T h SF k j) {x y : Int32} (hd : decode bs pc = .ok (.iushr, 1)) (hp : pc' = pc + 1) (K : Ogo p l e R s m args below meth c Z a0 EL L0 own nm bs ml rt T (mkF m pc' ls (.int (XT.ushr x y) :: st)) Q) : Ogo p l e R s m args below meth c Z a0 EL L0 own nm bs ml rt T (mkF m pc ls (.int y :: .int x :: st)) Q := by
  subst hp; exact own_step (fun t q => XT.iushr W.at W.ex rfl (W.hb hd) rfl q) K
theorem g_irem (W : Owk p l e R s m args below meth c Z a0 EL L0 own nm bs ml rt T h SF k j) {x y : Int32} (hd : decode bs pc = .ok (.irem, 1)) (hp : pc' = pc + 1) (hy : y ≠ 0) (K : Ogo p l e R s m args below meth c Z a0 EL L0 own nm bs ml rt T (mkF m pc' ls (.int (x % y) :: st)) Q) : Ogo p l e R s m args below meth c Z a0 EL L0 own nm bs ml rt T (mkF m pc ls (.int y :: .int x :: st)) Q := by
  obtain ⟨-, -, -, -, -, vm0, k0, X, -⟩ := id W
  subst hp; exact own_step (fun t q => iremM X W.ex rfl (W.hb hd) rfl hy q) K
theorem g_i2b (W : Owk p l e R s m args below meth c Z a0 EL L0 own nm bs ml rt T h SF k j) {x : Int32} (hd : decode bs pc = .ok (.i2b, 1)) (hp : pc' = pc + 1) (K : Ogo p l e R s m args below meth c Z a0 EL L0 own nm bs ml rt T (mkF m pc' ls (.int x.toInt8.toInt32 :: st)) Q) : Ogo p l e R s m args below meth c Z a0 EL L0 own nm bs ml rt T (mkF m pc ls (.int x :: st)) Q := by
  subst hp; exact own_step (fun t q => XT.i2b W.at W.ex rfl (W.hb hd) rfl q) K
theorem g_i2c (W : Owk p l e R s m args below meth c Z a0 EL L0 own nm bs ml rt T h SF k j) {x : Int32} (hd : decode bs pc = .ok (.i2c, 1)) (hp : pc' = pc + 1) (K : Ogo p l e R s m args below meth c Z a0 EL L0 own nm bs ml rt T (mkF m pc' ls (.int x.toUInt32.toUInt16.toUInt32.toInt32 :: st)) Q) : Ogo p l e R s m args below meth c Z a0 EL L0 own nm bs ml rt T (mkF m pc ls (.int x :: st)) Q := by
  subst hp; exact own_step (fun t q => XT.i2c W.at W.ex rfl (W.hb hd) rfl q) K
theorem g_ifY (W : Owk p l e R s m args below meth c Z a0 EL L0 own nm bs ml rt T h SF k j) {cd : ClassFile.Cond} {x : Int32} {o : Int} (hd : decode bs pc = .ok (.ifCond cd o, 3)) (hc : if_icmp.holds cd x 0 = true) (ho : 0 ≤ (pc : Int) + o) (hp : ((pc : Int) + o).toNat = pc') (K : Ogo p l e R s m args below meth c Z a0 EL L0 own nm bs ml rt T (mkF m pc' ls st) Q) : Ogo p l e R s m args below meth c Z a0 EL L0 own nm bs ml rt T (mkF m pc ls (.int x :: st)) Q := by
  exact own_step (fun t q => XS.ifYes W.at W.ex rfl (pc0 := pc) rfl (W.hb hd) rfl (by rw [if0]; exact hc) ho hp q) K
theorem g_ifN (W : Owk p l e R s m args below meth c Z a0 EL L0 own nm bs ml rt T h SF k j) {cd : ClassFile.Cond} {x : Int32} {o : Int} (hd : decode bs pc = .ok (.ifCond cd o, 3)) (hc : if_icmp.holds cd x 0 = false) (hp : pc' = pc + 3) (K : Ogo p l e R s m args below meth c Z a0 EL L0 own nm bs ml rt T (mkF m pc' ls st) Q) : Ogo p l e R s m args below meth c Z a0 EL L0 own nm bs ml rt T (mkF m pc ls (.int x :: st)) Q := by
  subst hp; exact own_step (fun t q => XS.ifNo W.at W.ex rfl (W.hb hd) rfl (by rw [if0]; exact hc) q) K
theorem g_icY (W : Owk p l e R s m args below meth c Z a0 EL L0 own nm bs ml rt T h SF k j) {cd : ClassFile.Cond} {x y : Int32} {o : Int} (hd : decode bs pc = .ok (.if_icmp cd o, 3)) (hc : if_icmp.holds cd x y = true) (ho : 0 ≤ (pc : Int) + o) (hp : ((pc : Int) + o).toNat = pc') (K : Ogo p l e R s m args below meth c Z a0 EL L0 own nm bs ml rt T (mkF m pc' ls st) Q) : Ogo p l e R s m args below meth c Z a0 EL L0 own nm bs ml rt T (mkF m pc ls (.int y :: .int x :: st)) Q := by
  exact own_step (fun t q => XS.icmpYes W.at W.ex rfl (pc0 := pc) rfl (W.hb hd) rfl hc ho hp q) K
theorem g_icN (W : Owk p l e R s m args below meth c Z a0 EL L0 own nm bs ml rt T h SF k j) {cd : ClassFile.Cond} {x y : Int32} {o : Int} (hd : decode bs pc = .ok (.if_icmp cd o, 3)) (hc : if_icmp.holds cd x y = false) (hp : pc' = pc + 3) (K : Ogo p l e R s m args below meth c Z a0 EL L0 own nm bs ml rt T (mkF m pc' ls st) Q) : Ogo p l e R s m args below meth c Z a0 EL L0 own nm bs ml rt T (mkF m pc ls (.int y :: .int x :: st)) Q := by
  subst hp; exact own_step (fun t q => XS.icmpNo W.at W.ex rfl (W.hb hd) rfl hc q) K
theorem g_nullY (W : Owk p l e R s m args below meth c Z a0 EL L0 own nm bs ml rt T h SF k j) {o : Int} (hd : decode bs pc = .ok (.ifnull o, 3)) (ho : 0 ≤ (pc : Int) + o) (hp : ((pc : Int) + o).toNat = pc') (K : Ogo p l e R s m args below meth c Z a0 EL L0 own nm bs ml rt T (mkF m pc' ls st) Q) : Ogo p l e R s m args below meth c Z a0 EL L0 own nm bs ml rt T (mkF m pc ls (.null :: st)) Q := by
  exact own_step (fun t q => XS.ifnullYes W.at W.ex rfl (pc0 := pc) rfl (W.hb hd) rfl ho hp q) K
theorem g_nullN (W : Owk p l e R s m args below meth c Z a0 EL L0 own nm bs ml rt T h SF k j) {b : Addr} {o : Int} (hd : decode bs pc = .ok (.ifnull o, 3)) (hp : pc' = pc + 3) (K : Ogo p l e R s m args below meth c Z a0 EL L0 own nm bs ml rt T (mkF m pc' ls st) Q) : Ogo p l e R s m args below meth c Z a0 EL L0 own nm bs ml rt T (mkF m pc ls (.ref b :: st)) Q := by
  subst hp; exact own_step (fun t q => XS.ifnullNo W.at W.ex rfl (W.hb hd) rfl q) K
theorem g_nnY (W : Owk p l e R s m args below meth c Z a0 EL L0 own nm bs ml rt T h SF k j) {b : Addr} {o : Int} (hd : decode bs pc = .ok (.ifnonnull o, 3)) (ho : 0 ≤ (pc : Int) + o) (hp : ((pc : Int) + o).toNat = pc') (K : Ogo p l e R s m args below meth c Z a0 EL L0 own nm bs ml rt T (mkF m pc' ls st) Q) : Ogo p l e R s m args below meth c Z a0 EL L0 own nm bs ml rt T (mkF m pc ls (.ref b :: st)) Q := by
  exact own_step (fun t q => XT.ifnonnullYes W.at W.ex rfl (pc0 := pc) rfl (W.hb hd) rfl ho hp q) K
theorem g_nnN (W : Owk p l e R s m args below meth c Z a0 EL L0 own nm bs ml rt T h SF k j) {o : Int} (hd : decode bs pc = .ok (.ifnonnull o, 3)) (hp : pc' = pc + 3) (K : Ogo p l e R s m args below meth c Z a0 EL L0 own nm bs ml rt T (mkF m pc' ls st) Q) : Ogo p l e R s m args below meth c Z a0 EL L0 own nm bs ml rt T (mkF m pc ls (.null :: st)) Q := by
  subst hp; exact own_step (fun t q => XT.ifnonnullNo W.at W.ex rfl (W.hb hd) rfl q) K
theorem g_acY (W : Owk p l e R s m args below meth c Z a0 EL L0 own nm bs ml rt T h SF k j) {cd : ClassFile.ACond} {x y : Value} {o : Int} (hd : decode bs pc = .ok (.if_acmp cd o, 3)) (h1 : x.isRef = true) (h2 : y.isRef = true) (hc : XT.acmp cd x y = true) (ho : 0 ≤ (pc : Int) + o) (hp : ((pc : Int) + o).toNat = pc') (K : Ogo p l e R s m args below meth c Z a0 EL L0 own nm bs ml rt T (mkF m pc' ls st) Q) : Ogo p l e R s m args below meth c Z a0 EL L0 own nm bs ml rt T (mkF m pc ls (y :: x :: st)) Q := by
  exact own_step (fun t q => XT.acmpYes W.at W.ex rfl (pc0 := pc) rfl (W.hb hd) rfl h1 h2 hc ho hp q) K
theorem g_acN (W : Owk p l e R s m args below meth c Z a0 EL L0 own nm bs ml rt T h SF k j) {cd : ClassFile.ACond} {x y : Value} {o : Int} (hd : decode bs pc = .ok (.if_acmp cd o, 3)) (h1 : x.isRef = true) (h2 : y.isRef = true) (hc : XT.acmp cd x y = false) (hp : pc' = pc + 3) (K : Ogo p l e R s m args below meth c Z a0 EL L0 own nm bs ml rt T (mkF m pc' ls st) Q) : Ogo p l e R s m args below meth c Z a0 EL L0 own nm bs ml rt T (mkF m pc ls (y :: x :: st)) Q := by
  subst hp; exact own_step (fun t q => XT.acmpNo W.at W.ex rfl (W.hb hd) rfl h1 h2 hc q) K
end Plain
/-! steps that read or write the heap or the tables -/
theorem Owk.fc (W : Owk p l e R s m args below meth c Z a0 EL L0 own nm bs ml rt T h SF k j) {vm0 : Vm} {k0 : Nat} (hS : s.Since vm0 k0) : vm0.findClass own = some m.cls := by rw [hS.1.alike.findClass]; exact W.1.2.2.1
theorem own_same (W : Owk p l e R s m args below meth c Z a0 EL L0 own nm bs ml rt T h SF k j) {g g2 : JFrame}
    (f : ∀ vm0, Stand p l e R (s.setVm vm0) m args below meth c T L0 k j → Z.Warmed39 vm0 → vm0.findClass own = some m.cls → ∃ T', Stand p l e R (s.setVm vm0) m args below meth c T' L0 k j ∧ T'.heap = h ∧ ∀ t, Steps p.tables e below (T'.setTop g2) t → Steps p.tables e below (T.setTop g) t)
    (K : ∀ T', Owk p l e R s m args below meth c Z a0 EL L0 own nm bs ml rt T' h SF k j → Ogo p l e R s m args below meth c Z a0 EL L0 own nm bs ml rt T' g2 Q) : Ogo p l e R s m args below meth c Z a0 EL L0 own nm bs ml rt T g Q := by
  obtain ⟨w1, w2, w3, w4, w5, vm0, k0, X, w6, w7, w8, w9, w10⟩ := id W
  obtain ⟨T', X', e', st⟩ := f vm0 X w6 (W.fc w7)
  exact own_step st (K T' ⟨w1, e', w3, w4, w5, vm0, k0, X', w6, w7, w8, w9, w10⟩)
theorem own_here (W : Owk p l e R s m args below meth c Z a0 EL L0 own nm bs ml rt T h SF k j) {g g2 : JFrame}
    (f : ∀ vm0, Stand p l e R (s.setVm vm0) m args below meth c T L0 k j → Z.Warmed39 vm0 → vm0.findClass own = some m.cls → ∀ t, Steps p.tables e below (T.setTop g2) t → Steps p.tables e below (T.setTop g) t)
    (K : Ogo p l e R s m args below meth c Z a0 EL L0 own nm bs ml rt T g2 Q) : Ogo p l e R s m args below meth c Z a0 EL L0 own nm bs ml rt T g Q := by
  obtain ⟨w1, w2, w3, w4, w5, vm0, k0, X, w6, w7, w8, w9, w10⟩ := id W
  exact own_step (f vm0 X w6 (W.fc w7)) K
theorem own_wr (W : Owk p l e R s m args below meth c Z a0 EL L0 own nm bs ml rt T h SF k j) {g g2 : JFrame} {a : Addr} {sl : Nat} {v : Value} (hS : a ∈ SF) (hL : (⟨a, sl⟩ : Loc) ∈ L0 ∨ s.heap.size ≤ a)
    (f : ∀ vm0, Stand p l e R (s.setVm vm0) m args below meth c T L0 k j → Z.Warmed39 vm0 → vm0.findClass own = some m.cls → ∃ T' h', Stand p l e R (s.setVm vm0) m args below meth c T' (L0 ++ [⟨a, sl⟩]) k j ∧ T'.heap = h' ∧ Wr h h' a sl v ∧ ∀ t, Steps p.tables e below (T'.setTop g2) t → Steps p.tables e below (T.setTop g) t)
    (K : ∀ T' h', Wr h h' a sl v → Owk p l e R s m args below meth c Z a0 EL L0 own nm bs ml rt T' h' SF k j → Ogo p l e R s m args below meth c Z a0 EL L0 own nm bs ml rt T' g2 Q) : Ogo p l e R s m args below meth c Z a0 EL L0 own nm bs ml rt T g Q := by
  obtain ⟨w1, w2, w3, w4, w5, vm0, k0, X, w6, w7, w8, w9, w10⟩ := id W
  obtain ⟨T', h', X', e', Wr', st⟩ := f vm0 X w6 (W.fc w7)
  have X2 := X'.sift (L' := L0) (fun x hx => by
    rcases List.mem_append.mp hx with q | q
    · exact Or.inl q
    · cases List.mem_singleton.mp q; exact hL)
  refine own_step st (K T' h' Wr' ⟨w1, e', fun x hx => by rw [Wr'.size]; exact w3 x hx, w4, w5, vm0, k0, X2, w6, w7, by rw [Wr'.size]; exact w8, w9.trans (CHr.wr Wr' (w10 a hS) w9.1), fun x hx => Safe.wr Wr' (w10 a hS) w9.1 (w10 x hx)⟩)
theorem g_getF (W : Owk p l e R s m args below meth c Z a0 EL L0 own nm bs ml rt T h SF k j) {pc pc' idx : Nat} {ls : Array Slot} {st : List Value} {O n d : String} {a : Addr} {v : Value} (hd : decode bs pc = .ok (.getfield idx, 3)) (hp : pc' = pc + 3) (w : (Cond.fieldLink own idx O n d).before a0 Z = true) (F : Fld Z h a O n d v)
    (K : ∀ T', Owk p l e R s m args below meth c Z a0 EL L0 own nm bs ml rt T' h SF k j → Ogo p l e R s m args below meth c Z a0 EL L0 own nm bs ml rt T' (mkF m pc' ls (v :: st)) Q) : Ogo p l e R s m args below meth c Z a0 EL L0 own nm bs ml rt T (mkF m pc ls (.ref a :: st)) Q := by
  subst hp; exact own_same W (fun vm0 X hZ ho => getF X W.ex hZ ho (host := "") (Or.inl w) Via.refl W.2.1 F (g := mkF m pc ls (.ref a :: st)) rfl rfl (W.hb hd)) K
theorem g_getS (W : Owk p l e R s m args below meth c Z a0 EL L0 own nm bs ml rt T h SF k j) {pc pc' idx : Nat} {ls : Array Slot} {st : List Value} {O n d : String} {v : Value} (hd : decode bs pc = .ok (.getstatic idx, 3)) (hp : pc' = pc + 3) (w : (Cond.fieldLink own idx O n d).before a0 Z = true) (F : Sta Z h O n d v)
    (K : ∀ T', Owk p l e R s m args below meth c Z a0 EL L0 own nm bs ml rt T' h SF k j → Ogo p l e R s m args below meth c Z a0 EL L0 own nm bs ml rt T' (mkF m pc' ls (v :: st)) Q) : Ogo p l e R s m args below meth c Z a0 EL L0 own nm bs ml rt T (mkF m pc ls st) Q := by
  subst hp; exact own_same W (fun vm0 X hZ ho => getS X W.ex hZ ho (host := "") w Via.refl W.2.1 F (g := mkF m pc ls st) rfl (W.hb hd)) K
theorem g_ldcI (W : Owk p l e R s m args below meth c Z a0 EL L0 own nm bs ml rt T h SF k j) {pc pc' idx : Nat} {ls : Array Slot} {st : List Value} {v : Int32} (hd : decode bs pc = .ok (.ldc idx, 2)) (hp : pc' = pc + 2) (w : (Cond.constant own idx v).before a0 Z = true)
    (K : Ogo p l e R s m args below meth c Z a0 EL L0 own nm bs ml rt T (mkF m pc' ls (.int v :: st)) Q) : Ogo p l e R s m args below meth c Z a0 EL L0 own nm bs ml rt T (mkF m pc ls st) Q := by
  subst hp; exact own_here W (fun vm0 X hZ ho => X.ldcInt W.ex ho (mvT (s := s.setVm vm0) hZ w) (g := mkF m pc ls st) rfl (W.hb hd)) K
theorem g_cast (W : Owk p l e R s m args below meth c Z a0 EL L0 own nm bs ml rt T h SF k j) {pc pc' idx : Nat} {ls : Array Slot} {st : List Value} {C : String} {a : Addr} (hd : decode bs pc = .ok (.checkcast idx, 3)) (hp : pc' = pc + 3) (w : (Cond.classLink own idx C).before a0 Z = true) (F : Ins Z h a C true)
    (K : ∀ T', Owk p l e R s m args below meth c Z a0 EL L0 own nm bs ml rt T' h SF k j → Ogo p l e R s m args below meth c Z a0 EL L0 own nm bs ml rt T' (mkF m pc' ls (.ref a :: st)) Q) : Ogo p l e R s m args below meth c Z a0 EL L0 own nm bs ml rt T (mkF m pc ls (.ref a :: st)) Q := by
  subst hp; exact own_same W (fun vm0 X hZ ho => castY X W.ex hZ ho w W.2.1 F (g := mkF m pc ls (.ref a :: st)) rfl rfl (W.hb hd)) K
theorem g_inst (W : Owk p l e R s m args below meth c Z a0 EL L0 own nm bs ml rt T h SF k j) {pc pc' idx : Nat} {ls : Array Slot} {st : List Value} {C : String} {a : Addr} (hd : decode bs pc = .ok (.instanceof idx, 3)) (hp : pc' = pc + 3) (w : (Cond.classLink own idx C).before a0 Z = true) (F : Ins Z h a C true)
    (K : ∀ T', Owk p l e R s m args below meth c Z a0 EL L0 own nm bs ml rt T' h SF k j → Ogo p l e R s m args below meth c Z a0 EL L0 own nm bs ml rt T' (mkF m pc' ls (.int 1 :: st)) Q) : Ogo p l e R s m args below meth c Z a0 EL L0 own nm bs ml rt T (mkF m pc ls (.ref a :: st)) Q := by
  subst hp; exact own_same W (fun vm0 X hZ ho => instY X W.ex hZ ho w W.2.1 F (g := mkF m pc ls (.ref a :: st)) rfl rfl (W.hb hd)) K
theorem g_new (W : Owk p l e R s m args below meth c Z a0 EL L0 own nm bs ml rt T h SF k j) {pc pc' idx n : Nat} {ls : Array Slot} {st : List Value} {C : String} (hd : decode bs pc = .ok (.new idx, 3)) (hp : pc' = pc + 3) (w : (Cond.classLink own idx C).before a0 Z = true) (wi : (Cond.instantiable C n).before a0 Z = true) (wz : (Cond.initialized C).before a0 Z = true) (hc : k + 1 ≤ R.cells) (hl : j + n ≤ R.slots)
    (K : ∀ T' h', Ext h h' → Exa Z h' h.size C → (∀ {O nm d : String} {ty : FieldType}, Laid Z a0 C O nm d → parseFieldDescriptor d = some ty → Fld Z h' h.size O nm d (defaultValue ty)) → Unt h' h.size → Owk p l e R s m args below meth c Z a0 EL L0 own nm bs ml rt T' h' (h.size :: SF) (k + 1) (j + n) → Ogo p l e R s m args below meth c Z a0 EL L0 own nm bs ml rt T' (mkF m pc' ls (.ref h.size :: st)) Q) : Ogo p l e R s m args below meth c Z a0 EL L0 own nm bs ml rt T (mkF m pc ls st) Q := by
  subst hp
  obtain ⟨w1, w2, w3, w4, w5, vm0, k0, X, w6, w7, w8, w9, w10⟩ := id W
  obtain ⟨T', h', X', e', E, A, D, U, st'⟩ := newO X W.ex w6 (W.fc w7) w wi wz w2 (g := mkF m pc ls st) rfl (W.hb hd) hc hl
  refine own_step st' (K T' h' E A D U ⟨w1, e', fun x hx => ?_, hc, hl, vm0, k0, X', w6, w7, Nat.le_trans w8 E.1, w9.trans (CHr.ext E w9.1), fun x hx => ?_⟩)
  · rcases List.mem_cons.mp hx with rfl | q
    · exact A.lt
    · exact Nat.lt_of_lt_of_le (w3 x q) E.1
  · rcases List.mem_cons.mp hx with rfl | q
    · exact (Safe.new (Nat.le_refl _)).ext E w9.1
    · exact (w10 x q).ext E w9.1
theorem g_newP (W : Owk p l e R s m args below meth c Z a0 EL L0 own nm bs ml rt T h SF k j) {pc pc' : Nat} {ls : Array Slot} {st : List Value} {aty : ArrayType} {ty : FieldType} {dv : Value} {n : Int32} {cap : Nat} (hd : decode bs pc = .ok (.newarray aty, 2)) (hp : pc' = pc + 2) (hty : newarray.typeOf aty = ty) (hdv : defaultValue ty = dv) (w : (Cond.arrayClass ty).before a0 Z = true) (hn : ¬ n < 0) (hcap : n.toNatClampNeg ≤ cap) (hb : cap * 8 ≤ 536870912) (hc : k + 1 ≤ R.cells) (hl : j + cap ≤ R.slots)
    (K : ∀ T' h' cA, Ext h h' → Arv Z h' h.size cA ty n [] dv → Owk p l e R s m args below meth c Z a0 EL L0 own nm bs ml rt T' h' (h.size :: SF) (k + 1) (j + cap) → Ogo p l e R s m args below meth c Z a0 EL L0 own nm bs ml rt T' (mkF m pc' ls (.ref h.size :: st)) Q) : Ogo p l e R s m args below meth c Z a0 EL L0 own nm bs ml rt T (mkF m pc ls (.int n :: st)) Q := by
  subst hp hty hdv
  obtain ⟨w1, w2, w3, w4, w5, vm0, k0, X, w6, w7, w8, w9, w10⟩ := id W
  obtain ⟨T', h', cA, X', e', E, A, st'⟩ := newP X W.ex w6 w w2 (g := mkF m pc ls (.int n :: st)) rfl (W.hb hd) rfl hn hcap hb hc hl
  have V := Arv.new A hn
  refine own_step st' (K T' h' cA E V ⟨w1, e', fun x hx => ?_, hc, hl, vm0, k0, X', w6, w7, Nat.le_trans w8 E.1, w9.trans (CHr.ext E w9.1), fun x hx => ?_⟩)
  · rcases List.mem_cons.mp hx with rfl | q
    · exact V.lt
    · exact Nat.lt_of_lt_of_le (w3 x q) E.1
  · rcases List.mem_cons.mp hx with rfl | q
    · exact (Safe.new (Nat.le_refl _)).ext E w9.1
    · exact (w10 x q).ext E w9.1
theorem g_putF (W : Owk p l e R s m args below meth c Z a0 EL L0 own nm bs ml rt T h SF k j) {pc pc' idx kk : Nat} {ls : Array Slot} {st : List Value} {O n d C : String} {ty : FieldType} {a : Addr} {v old : Value} (hd : decode bs pc = .ok (.putfield idx, 3)) (hp : pc' = pc + 3) (w : (Cond.fieldLink own idx O n d).before a0 Z = true) (F : Fld Z h a O n d old) (E : Exa Z h a C) (L : (Cond.lays C O n d).before a0 Z = true ∨ ((Cond.laysFinal C O n d).before a0 Z = true ∧ own = O ∧ nm = "<init>")) (wi : (Cond.instantiable C kk).before a0 Z = true)
    (hty : parseFieldDescriptor d = some ty) (hn : narrow ty v = v) (hf : fits ty v = true) (hS : a ∈ SF) (hL : (⟨a, RoadKit.slotOf Z O n d⟩ : Loc) ∈ L0 ∨ s.heap.size ≤ a)
    (K : ∀ T' h', Wr h h' a (RoadKit.slotOf Z O n d) v → Owk p l e R s m args below meth c Z a0 EL L0 own nm bs ml rt T' h' SF k j → Ogo p l e R s m args below meth c Z a0 EL L0 own nm bs ml rt T' (mkF m pc' ls st) Q) : Ogo p l e R s m args below meth c Z a0 EL L0 own nm bs ml rt T (mkF m pc ls (v :: .ref a :: st)) Q := by
  subst hp
  have hnm := W.1.2.2.2.2.2.2.2.1
  exact own_wr W hS hL (fun vm0 X hZ ho => putF X W.ex hZ ho (host := "") (Or.inl w) Via.refl W.2.1 F E (L.imp id fun q => ⟨q.1, q.2.1, hnm.trans q.2.2⟩) wi hty hn hf (g := mkF m pc ls (v :: .ref a :: st)) rfl rfl (W.hb hd)) K
theorem own_idx {N jj : Int32} {i : Nat} (hN : ¬ N < 0) (hj : jj = Int32.ofNat i) (hi : i < N.toNatClampNeg) : ¬ jj < 0 ∧ jj.toNatClampNeg = i := by
  have q : N.toNatClampNeg < 2 ^ 31 := (back32 hN).2
  have e : jj.toInt = i := by rw [hj]; exact Int32.toInt_ofNat_of_lt (by omega)
  refine ⟨fun z => ?_, ?_⟩
  · rw [Int32.lt_iff_toInt_lt, e] at z
    have : (0 : Int32).toInt = 0 := rfl
    omega
  · show jj.toInt.toNat = i
    rw [e]; rfl
theorem g_alen (W : Owk p l e R s m args below meth c Z a0 EL L0 own nm bs ml rt T h SF k j) {pc pc' : Nat} {ls : Array Slot} {st : List Value} {a : Addr} {kC : ClassId} {ty : FieldType} {N : Int32} {vs : List Value} {dv : Value} (hd : decode bs pc = .ok (.arraylength, 1)) (hp : pc' = pc + 1) (A : Arv Z h a kC ty N vs dv)
    (K : Ogo p l e R s m args below meth c Z a0 EL L0 own nm bs ml rt T (mkF m pc' ls (.int N :: st)) Q) : Ogo p l e R s m args below meth c Z a0 EL L0 own nm bs ml rt T (mkF m pc ls (.ref a :: st)) Q := by
  subst hp
  obtain ⟨cl, A1, A2, A3, A4, A5, A6⟩ := A
  refine own_here W (fun vm0 X hZ ho t q => X.arraylength W.ex (by rw [W.2.1]; exact A1.1) (State.isArrayOf_alike hZ.alike A1.2.1) (g := mkF m pc ls (.ref a :: st)) rfl rfl (W.hb hd) t ?_) K
  rw [len_of A3 A4]; exact q
theorem g_caload (W : Owk p l e R s m args below meth c Z a0 EL L0 own nm bs ml rt T h SF k j) {pc pc' : Nat} {ls : Array Slot} {st : List Value} {a : Addr} {kC : ClassId} {N jj : Int32} {vs : List Value} {dv v : Value} (hd : decode bs pc = .ok (.caload, 1)) (hp : pc' = pc + 1) (A : Arv Z h a kC .char N vs dv) {i : Nat} (hj : jj = Int32.ofNat i) (hi : i < N.toNatClampNeg) (hv : vs.getD i dv = v)
    (K : Ogo p l e R s m args below meth c Z a0 EL L0 own nm bs ml rt T (mkF m pc' ls (v :: st)) Q) : Ogo p l e R s m args below meth c Z a0 EL L0 own nm bs ml rt T (mkF m pc ls (.int jj :: .ref a :: st)) Q := by
  subst hp
  obtain ⟨cl, A1, A2, A3, A4, A5, A6⟩ := A
  obtain ⟨q1, q2⟩ := own_idx A4 hj hi
  exact own_here W (fun vm0 X hZ ho t q => X.caload W.ex (v := v) (by rw [W.2.1]; exact A1.1) (State.isArrayOf_alike hZ.alike A1.2.1) A1.2.2 (by rw [q2, A3]; intro z; rcases z with z | z; exact q1 z; omega) (by rw [q2, A5 i (by omega), hv]) (g := mkF m pc ls (.int jj :: .ref a :: st)) rfl rfl (W.hb hd) t q) K
theorem g_baload (W : Owk p l e R s m args below meth c Z a0 EL L0 own nm bs ml rt T h SF k j) {pc pc' : Nat} {ls : Array Slot} {st : List Value} {a : Addr} {kC : ClassId} {N jj : Int32} {vs : List Value} {dv v : Value} (hd : decode bs pc = .ok (.baload, 1)) (hp : pc' = pc + 1) (A : Arv Z h a kC .byte N vs dv) {i : Nat} (hj : jj = Int32.ofNat i) (hi : i < N.toNatClampNeg) (hv : vs.getD i dv = v)
    (K : Ogo p l e R s m args below meth c Z a0 EL L0 own nm bs ml rt T (mkF m pc' ls (v :: st)) Q) : Ogo p l e R s m args below meth c Z a0 EL L0 own nm bs ml rt T (mkF m pc ls (.int jj :: .ref a :: st)) Q := by
  subst hp
  obtain ⟨cl, A1, A2, A3, A4, A5, A6⟩ := A
  obtain ⟨q1, q2⟩ := own_idx A4 hj hi
  exact own_here W (fun vm0 X hZ ho t q => X.baloadBytes W.ex (v := v) (by rw [W.2.1]; exact A1.1) (State.isArrayOf_alike hZ.alike A1.2.1) A1.2.2 (by rw [q2, A3]; intro z; rcases z with z | z; exact q1 z; omega) (by rw [q2, A5 i (by omega), hv]) (g := mkF m pc ls (.int jj :: .ref a :: st)) rfl rfl (W.hb hd) t q) K
theorem g_aaload (W : Owk p l e R s m args below meth c Z a0 EL L0 own nm bs ml rt T h SF k j) {pc pc' : Nat} {ls : Array Slot} {st : List Value} {a : Addr} {kC : ClassId} {ty : FieldType} {N jj : Int32} {vs : List Value} {dv v : Value} (hd : decode bs pc = .ok (.aaload, 1)) (hp : pc' = pc + 1) (A : Arv Z h a kC ty N vs dv) (hr : ty.isReference = true) {i : Nat} (hj : jj = Int32.ofNat i) (hi : i < N.toNatClampNeg) (hv : vs.getD i dv = v)
    (K : Ogo p l e R s m args below meth c Z a0 EL L0 own nm bs ml rt T (mkF m pc' ls (v :: st)) Q) : Ogo p l e R s m args below meth c Z a0 EL L0 own nm bs ml rt T (mkF m pc ls (.int jj :: .ref a :: st)) Q := by
  subst hp
  obtain ⟨cl, A1, A2, A3, A4, A5, A6⟩ := A
  obtain ⟨q1, q2⟩ := own_idx A4 hj hi
  exact own_here W (fun vm0 X hZ ho t q => X.aaload W.ex (v := v) (by rw [W.2.1]; exact A1.1) (State.isArrayOf_alike hZ.alike A1.2.1) hr A1.2.2 (by rw [q2, A3]; intro z; rcases z with z | z; exact q1 z; omega) (by rw [q2, A5 i (by omega), hv]) (g := mkF m pc ls (.int jj :: .ref a :: st)) rfl rfl (W.hb hd) t q) K
theorem g_castore (W : Owk p l e R s m args below meth c Z a0 EL L0 own nm bs ml rt T h SF k j) {pc pc' : Nat} {ls : Array Slot} {st : List Value} {a : Addr} {kC : ClassId} {N jj x y : Int32} {vs vs' : List Value} {dv : Value} (hd : decode bs pc = .ok (.castore, 1)) (hp : pc' = pc + 1) (A : Arv Z h a kC .char N vs dv) {i : Nat} (hj : jj = Int32.ofNat i) (hi : i < N.toNatClampNeg) (hi' : i < vs.length) (hy : nar .char x = y) (hv : vs.set i (.int y) = vs') (hS : a ∈ SF) (hL : (⟨a, i⟩ : Loc) ∈ L0 ∨ s.heap.size ≤ a)
    (K : ∀ T' h', Wr h h' a i (.int y) → Arv Z h' a kC .char N vs' dv → Owk p l e R s m args below meth c Z a0 EL L0 own nm bs ml rt T' h' SF k j → Ogo p l e R s m args below meth c Z a0 EL L0 own nm bs ml rt T' (mkF m pc' ls st) Q) : Ogo p l e R s m args below meth c Z a0 EL L0 own nm bs ml rt T (mkF m pc ls (.int x :: .int jj :: .ref a :: st)) Q := by
  subst hp hy hv
  obtain ⟨cl, A1, A2, A3, A4, A5, A6⟩ := A
  obtain ⟨q1, q2⟩ := own_idx A4 hj hi
  refine own_wr W (v := .int (nar .char x)) (sl := i) hS hL (fun vm0 X hZ ho => ?_) (fun T' h' w => K T' h' w (Arv.set (j := jj) A1 A2 A3 A4 A5 A6 (fits_nar_char x) (by rw [q2]; exact w) i q2 hi'))
  have := stC X W.ex hZ W.2.1 A1 (j := jj) (x := x) (by rw [q2, A3]; intro z; rcases z with z | z; exact q1 z; omega) (g := mkF m pc ls (.int x :: .int jj :: .ref a :: st)) rfl rfl (W.hb hd)
  rw [q2] at this; exact this
theorem g_bastore (W : Owk p l e R s m args below meth c Z a0 EL L0 own nm bs ml rt T h SF k j) {pc pc' : Nat} {ls : Array Slot} {st : List Value} {a : Addr} {kC : ClassId} {N jj x y : Int32} {vs vs' : List Value} {dv : Value} (hd : decode bs pc = .ok (.bastore, 1)) (hp : pc' = pc + 1) (A : Arv Z h a kC .byte N vs dv) {i : Nat} (hj : jj = Int32.ofNat i) (hi : i < N.toNatClampNeg) (hi' : i < vs.length) (hy : nar .byte x = y) (hv : vs.set i (.int y) = vs') (hS : a ∈ SF) (hL : (⟨a, i⟩ : Loc) ∈ L0 ∨ s.heap.size ≤ a)
    (K : ∀ T' h', Wr h h' a i (.int y) → Arv Z h' a kC .byte N vs' dv → Owk p l e R s m args below meth c Z a0 EL L0 own nm bs ml rt T' h' SF k j → Ogo p l e R s m args below meth c Z a0 EL L0 own nm bs ml rt T' (mkF m pc' ls st) Q) : Ogo p l e R s m args below meth c Z a0 EL L0 own nm bs ml rt T (mkF m pc ls (.int x :: .int jj :: .ref a :: st)) Q := by
  subst hp hy hv
  obtain ⟨cl, A1, A2, A3, A4, A5, A6⟩ := A
  obtain ⟨q1, q2⟩ := own_idx A4 hj hi
  refine own_wr W (v := .int (nar .byte x)) (sl := i) hS hL (fun vm0 X hZ ho => ?_) (fun T' h' w => K T' h' w (Arv.set (j := jj) A1 A2 A3 A4 A5 A6 (fits_nar_byte x) (by rw [q2]; exact w) i q2 hi'))
  have := stB X W.ex hZ W.2.1 A1 (j := jj) (x := x) (by rw [q2, A3]; intro z; rcases z with z | z; exact q1 z; omega) (g := mkF m pc ls (.int x :: .int jj :: .ref a :: st)) rfl rfl (W.hb hd)
  rw [q2] at this; exact this
theorem g_initO (W : Owk p l e R s m args below meth c Z a0 EL L0 own nm bs ml rt T h SF k j) {pc pc' idx : Nat} {ls : Array Slot} {st : List Value} {a : Addr} (hd : decode bs pc = .ok (.invokespecial idx, 3)) (hp : pc' = pc + 3) (w1 : (Cond.methodLink own idx Lib.objectInit).before a0 Z = true) (w2 : (Cond.instanceMethod Lib.objectInit).before a0 Z = true) (w3 : (Cond.code Lib.objectInit ⟨#[0xb1]⟩ 1 none).before a0 Z = true) (hsz : ls.size = ml) (hf : 1 ≤ R.frames) {w : Nat} (hW : (st.map fun v => v.category).sum ≤ w) (hl : w + 12 ≤ R.locals)
    (K : ∀ T', Owk p l e R s m args below meth c Z a0 EL L0 own nm bs ml rt T' h SF k j → Ogo p l e R s m args below meth c Z a0 EL L0 own nm bs ml rt T' (mkF m pc' ls st) Q) : Ogo p l e R s m args below meth c Z a0 EL L0 own nm bs ml rt T (mkF m pc ls (.ref a :: st)) Q := by
  subst hp; exact own_same W (fun vm0 X hZ ho => initO X W.ex hZ ho w1 w2 w3 W.2.1 (g := mkF m pc ls (.ref a :: st)) rfl (by rw [W.1.2.2.2.2.1]; exact hsz) rfl (W.hb hd) hf (W := w) (by show 2 * 0 + _ ≤ _; omega) hl) K
/-- ldc of a String constant of EL, read -/
theorem g_ldcS (W : Owk p l e R s m args below meth c Z a0 EL L0 own nm bs ml rt T h SF k j) {pc pc' idx : Nat} {ls : Array Slot} {st : List Value} {text : String} {vs : List Value} {z : Int32} {n : Nat} (hd : decode bs pc = .ok (.ldc idx, 2)) (hp : pc' = pc + 2) (w : (Cond.stringLink own idx text).before a0 Z = true) (wS : ∀ a ∈ Bundle.stringAtoms, a.before a0 Z = true) (hmem : (own, idx) ∈ EL)
    (ht : (∀ c ∈ text.toList, c.toNat < 256) ∧ text.toList.map (fun c => Value.int (Jvm.Lit.byteI c.toNat.toUInt16)) = vs) (hz : ¬ z < 0) (hl : z.toNatClampNeg = vs.length) (hn : 4 * text.toList.length ≤ n) (hbig : n ≤ 536870912) (hc : k + 2 ≤ R.cells) (hs : j + (n + 4) ≤ R.slots)
    (K : ∀ T' h' a b kb, Ext h h' → Exa Z h' a "java/lang/String" → Fld Z h' a "java/lang/String" "coder" "B" (.int 0) → Fld Z h' a "java/lang/String" "value" "[B" (.ref b) → Arv Z h' b kb .byte z vs (.int 0) → Owk p l e R s m args below meth c Z a0 EL L0 own nm bs ml rt T' h' SF (k + 2) (j + (n + 4)) → Ogo p l e R s m args below meth c Z a0 EL L0 own nm bs ml rt T' (mkF m pc' ls (.ref a :: st)) Q) : Ogo p l e R s m args below meth c Z a0 EL L0 own nm bs ml rt T (mkF m pc ls st) Q := by
  subst hp
  obtain ⟨w1, w2, w3, w4, w5, vm0, k0, X, w6, w7, w8, w9, w10⟩ := id W
  obtain ⟨a, T', h', k1, b, kb, X', e', E, hS', hk', hW', hf', f1, f2, f3, f4, f5, f6, C, -, -, st'⟩ := ldcCH X W.ex w6 (W.fc w7) w wS w2 w7 w8 w1.2.1 hmem w9.1 ht hz hl (g := mkF m pc ls st) rfl (W.hb hd) hn hbig hc hs
  exact own_step st' (K T' h' a b kb E f1 f2 f3 f4 ⟨w1, e', fun x hx => Nat.lt_of_lt_of_le (w3 x hx) E.1, hc, hs, T'.vm, k1, X', hW', hS', hk', w9.trans C, fun x hx => C.safe (w3 x hx) (w10 x hx)⟩)
theorem Owk.add (W : Owk p l e R s m args below meth c Z a0 EL L0 own nm bs ml rt T h SF k j) {a : Addr} {kC : ClassId} {ty : FieldType} {N : Int32} {vs : List Value} {dv : Value} (A : Arv Z h a kC ty N vs dv) (ht : ty ≠ .byte) : Owk p l e R s m args below meth c Z a0 EL L0 own nm bs ml rt T h (a :: SF) k j := by
  obtain ⟨w1, w2, w3, w4, w5, vm0, k0, X, w6, w7, w8, w9, w10⟩ := W
  refine ⟨w1, w2, fun x hx => ?_, w4, w5, vm0, k0, X, w6, w7, w8, w9, fun x hx => ?_⟩
  · rcases List.mem_cons.mp hx with rfl | q
    · exact A.lt
    · exact w3 x q
  · rcases List.mem_cons.mp hx with rfl | q
    · exact Safe.arv w6.alike A ht
    · exact w10 x q
theorem Owk.addE (W : Owk p l e R s m args below meth c Z a0 EL L0 own nm bs ml rt T h SF k j) {a : Addr} {C : String} (E : Exa Z h a C) (h1 : C ≠ "java/lang/String") (h2 : C ≠ "[B") : Owk p l e R s m args below meth c Z a0 EL L0 own nm bs ml rt T h (a :: SF) k j := by
  obtain ⟨w1, w2, w3, w4, w5, vm0, k0, X, w6, w7, w8, w9, w10⟩ := W
  refine ⟨w1, w2, fun x hx => ?_, w4, w5, vm0, k0, X, w6, w7, w8, w9, fun x hx => ?_⟩
  · rcases List.mem_cons.mp hx with rfl | q
    · exact E.lt
    · exact w3 x q
  · rcases List.mem_cons.mp hx with rfl | q
    · exact Safe.exa w6.alike E h1 h2
    · exact w10 x q
theorem g_instN (W : Owk p l e R s m args below meth c Z a0 EL L0 own nm bs ml rt T h SF k j) {pc pc' idx : Nat} {ls : Array Slot} {st : List Value} (hd : decode bs pc = .ok (.instanceof idx, 3)) (hp : pc' = pc + 3)
    (K : Ogo p l e R s m args below meth c Z a0 EL L0 own nm bs ml rt T (mkF m pc' ls (.int 0 :: st)) Q) : Ogo p l e R s m args below meth c Z a0 EL L0 own nm bs ml rt T (mkF m pc ls (.null :: st)) Q := by
  subst hp; exact own_here W (fun vm0 X hZ ho => X.instanceofNull W.ex (g := mkF m pc ls (.null :: st)) rfl rfl (W.hb hd)) K
theorem g_clone (W : Owk p l e R s m args below meth c Z a0 EL L0 own nm bs ml rt T h SF k j) {pc pc' idx : Nat} {ls : Array Slot} {st : List Value} {ad : String} {a : Addr} {kC : ClassId} {ty : FieldType} {N : Int32} {vs : List Value} {dv : Value} {w cap : Nat} (hd : decode bs pc = .ok (.invokevirtual idx, 3)) (hp : pc' = pc + 3)
    (w1 : (Jvm.Cond.methodLink own idx ⟨ad, "clone", "()Ljava/lang/Object;"⟩).before a0 Z = true) (w2 : (Jvm.Cond.sameMethod ad "java/lang/Object" "clone" "()Ljava/lang/Object;").before a0 Z = true) (w3 : (Jvm.Cond.native ⟨"java/lang/Object", "clone", "()Ljava/lang/Object;"⟩).before a0 Z = true) (w4 : (Jvm.Cond.instanceMethod ⟨"java/lang/Object", "clone", "()Ljava/lang/Object;"⟩).before a0 Z = true) (w5 : (Jvm.Cond.selects ad ⟨ad, "clone", "()Ljava/lang/Object;"⟩ ⟨"java/lang/Object", "clone", "()Ljava/lang/Object;"⟩).before a0 Z = true) (w6 : (Jvm.Cond.castable ad "java/lang/Cloneable").before a0 Z = true)
    (A : Arv Z h a kC ty N vs dv) (E : Exa Z h a ad) (hsz : ls.size = ml) (hf : 1 ≤ R.frames) (hW : (st.map fun v => v.category).sum ≤ w) (hl : w + 14 ≤ R.locals) (hcap : N.toNatClampNeg ≤ cap) (hc : k + 1 ≤ R.cells) (hsl : j + cap ≤ R.slots)
    (K : ∀ T' h', Ext h h' → Arv Z h' h.size kC ty N vs dv → Exa Z h' h.size ad → Owk p l e R s m args below meth c Z a0 EL L0 own nm bs ml rt T' h' SF (k + 1) (j + cap) → Ogo p l e R s m args below meth c Z a0 EL L0 own nm bs ml rt T' (mkF m pc' ls (.ref h.size :: st)) Q) : Ogo p l e R s m args below meth c Z a0 EL L0 own nm bs ml rt T (mkF m pc ls (.ref a :: st)) Q := by
  subst hp
  obtain ⟨x1, x2, x3, x4, x5, vm0, k0, X, x6, x7, x8, x9, x10⟩ := id W
  obtain ⟨T', h', X', e', E', A', F', st'⟩ := cloneH X W.ex x6 (W.fc x7) w1 w2 w3 w4 w5 w6 x2 A.arh E (g := mkF m pc ls (.ref a :: st)) rfl (by rw [x1.2.2.2.2.1]; exact hsz) rfl (W.hb hd) hf (W := w) (by show 2 * 0 + _ ≤ _; omega) hl hcap hc hsl
  exact own_step st' (K T' h' E' A' F' ⟨x1, e', fun x hx => Nat.lt_of_lt_of_le (x3 x hx) E'.1, hc, hsl, vm0, k0, X', x6, x7, Nat.le_trans x8 E'.1, x9.trans (CHr.ext E' x9.1), fun x hx => (x10 x hx).ext E' x9.1⟩)
/-! returns -/
theorem g_ret (W : Owk p l e R s m args below meth c Z a0 EL L0 own nm bs ml rt T h SF k j) {pc : Nat} {ls : Array Slot} {st : List Value} {i : Instr} {t : FieldType} {v : Value} (hd : decode bs pc = .ok (i, 1)) (hr : rt = some t) (hn : narrow t v = v)
    (hi : (i = .ireturn ∧ (t = .int ∨ t = .boolean ∨ t = .byte ∨ t = .char ∨ t = .short) ∧ ∃ z, v = .int z) ∨ (i = .lreturn ∧ t = .long ∧ ∃ z, v = .long z) ∨ (i = .dreturn ∧ t = .double ∧ ∃ z, v = .double z) ∨ (i = .freturn ∧ t = .float ∧ ∃ z, v = .float z) ∨ (i = .areturn ∧ t.isReference = true ∧ v.isRef = true)) (q : Q (some v) h SF) : Ogo p l e R s m args below meth c Z a0 EL L0 own nm bs ml rt T (mkF m pc ls (v :: st)) Q := by
  obtain ⟨w1, w2, w3, w4, w5, vm0, k0, X, w6, w7, w8, w9, w10⟩ := id W
  exact ⟨T, some v, h, SF, k, j, W, (fun z => by rw [hr] at z; cases z), q, fun fs hl => retOut X W.ex (by rw [← hr]; exact w1.2.2.2.2.2.1) hn hi (W.hb hd) hl⟩
theorem g_return (W : Owk p l e R s m args below meth c Z a0 EL L0 own nm bs ml rt T h SF k j) {pc : Nat} {ls : Array Slot} (hd : decode bs pc = .ok (.return_, 1)) (hr : rt = none) (q : Q none h SF) : Ogo p l e R s m args below meth c Z a0 EL L0 own nm bs ml rt T (mkF m pc ls []) Q := by
  obtain ⟨w1, w2, w3, w4, w5, vm0, k0, X, w6, w7, w8, w9, w10⟩ := id W
  exact ⟨T, none, h, SF, k, j, W, fun _ => rfl, q, fun fs hl => X.returnOut W.ex (by rw [← hr]; exact w1.2.2.2.2.2.1) (W.hb hd) hl⟩
theorem g_iret (W : Owk p l e R s m args below meth c Z a0 EL L0 own nm bs ml rt T h SF k j) {pc : Nat} {ls : Array Slot} {st : List Value} {t : FieldType} {z : Int32} (hd : decode bs pc = .ok (.ireturn, 1)) (hr : rt = some t) (ht : t = .int ∨ t = .boolean ∨ t = .byte ∨ t = .char ∨ t = .short) (hn : narrow t (.int z) = .int z) (q : Q (some (.int z)) h SF) : Ogo p l e R s m args below meth c Z a0 EL L0 own nm bs ml rt T (mkF m pc ls (.int z :: st)) Q :=
  g_ret W hd hr hn (Or.inl ⟨rfl, ht, z, rfl⟩) q
theorem g_aret (W : Owk p l e R s m args below meth c Z a0 EL L0 own nm bs ml rt T h SF k j) {pc : Nat} {ls : Array Slot} {st : List Value} {t : FieldType} {v : Value} (hd : decode bs pc = .ok (.areturn, 1)) (hr : rt = some t) (ht : t.isReference = true) (hv : v.isRef = true) (hn : narrow t v = v) (q : Q (some v) h SF) : Ogo p l e R s m args below meth c Z a0 EL L0 own nm bs ml rt T (mkF m pc ls (v :: st)) Q :=
  g_ret W hd hr hn (Or.inr (Or.inr (Or.inr (Or.inr ⟨rfl, ht, hv⟩)))) q
/-! contracts -/
/-- y, called with as' at the heap h (whose cells ySF may be written), comes back with Q; of the old it writes the places yL alone -/
def Ocon (l : Launch) (Z : State) (EL : List (String × Nat)) (y : MethodName) (bs : ByteArray) (ml : Nat) (rt : Option FieldType) (ws : List Jvm.Cond) (rm : Room) (as' : Array Value) (h : Heap) (SF : List Addr) (L0 : List Loc) (Q : Option Value → Heap → List Addr → Prop) : Prop :=
  MetFree l y (head1 (Jvm.Cond.code y bs ml rt :: ws) rm) (fun a U => a = as' ∧ Z.Warmed39 U.vm ∧ U.heap = h ∧ CHv Z EL U.vm h ∧ ∀ x ∈ SF, x < h.size ∧ Safe Z EL U.vm h x) (fun _ _ bl st _ => st.vm.MethodsKnown ∧ st.vm.FramesKnown bl)
    (fun _ U o U' => ∃ v SFo, o = .returned v ∧ Q v U'.heap SFo ∧ (∀ x ∈ SFo, x < U'.heap.size ∧ Safe Z EL U'.vm U'.heap x) ∧ CHr Z EL U.vm U.heap U'.vm U'.heap ∧ ReturnedEndW U o U' L0 rm.cells rm.slots)
theorem own_con {y : MethodName} {ws : List Jvm.Cond} {rm : Room} {as' : Array Value} {h0 : Heap} (hEL : EW Z a0 EL) (hpl : plainFor y = true)
    (go : ∀ (p : Program) (e : Env) (s : State) (m : MethodId) (below : List Frame) (meth : Method) (c : Code) (T : State), s.heap = h0 → Owk p l e rm s m as' below meth c Z a0 EL L0 y.cls y.name bs ml rt T h0 SF 0 0 → Ogo p l e rm s m as' below meth c Z a0 EL L0 y.cls y.name bs ml rt T (entryFrame m as' ml) Q) :
    Ocon l Z EL y bs ml rt ws rm as' h0 SF L0 Q := by
  refine MetFree.of_bodySF hpl hisR ?_
  intro p e s m args below meth c s₁ Bd hml hP hK
  obtain ⟨rfl, hZ, hh, hC, hS⟩ := hP
  have X0 : Stand p l e rm s m args below meth c s₁ [] 0 0 := Stand.of_body Bd
  have hlk : meth.locks = false := BodyLoose.notSynchronized Bd
  have e0 : s₁.heap = h0 := by rw [← hh, Bd.state]; rfl
  have X1 : Stand p l e rm (s.setVm s.vm) m args below meth c s₁ L0 0 0 := X0.sift (fun x hx => by cases hx)
  obtain ⟨T', v, h', SF', k', j', W', hv, hq, st⟩ := go p e s m below meth c s₁ hh ⟨⟨Bd.exec, hEL, findClass_of_methodNamed Bd.named, Bd.bytes, hml, Bd.returns, hlk, (name_of_methodNamed Bd.named Bd.method).1, hK.1, hK.2⟩, e0, fun x hx => (hS x hx).1, Nat.zero_le _, Nat.zero_le _, s.vm, s.heap.size, X1, hZ, (State.WarmedH.refl s).since _, by rw [hh]; exact Nat.le_refl _, by rw [hh]; exact CHr.refl hC, fun x hx => (hS x hx).2⟩
  obtain ⟨w1, w2, w3, w4, w5, vm0, k0, X, w6, w7, w8, w9, w10⟩ := W'
  obtain ⟨fs, hl, hrun, hend, hret⟩ := (X.mono w4 w5).leaveW (v := v) w7 (by rw [w2]; exact w8) (fun z => hv (by rw [← z]; exact Bd.returns.symm ▸ rfl)) hlk
  have A := CHv.at X w6 hEL w9.1
  refine ⟨_, _, st fs hl, hrun, hend, v, SF', rfl, by rw [show (T'.setFrames fs).heap = T'.heap from rfl, w2]; exact hq, fun x hx => ?_, ?_, hret⟩
  · show x < T'.heap.size ∧ Safe Z EL T'.vm T'.heap x
    rw [w2]; exact ⟨w3 x hx, A.safe (w3 x hx) (w10 x hx)⟩
  have q : CHr Z EL s.vm s.heap T'.vm h' := w9.trans A
  show CHr Z EL s.vm s.heap T'.vm T'.heap
  rw [w2]; exact q
theorem own_nface {args : Array Value} {s : State} {C7 : String} {y y7 : MethodName} (h7 : y7.cls = y.cls) (w7 : (Jvm.Cond.selects C7 y7 y7).before args s = true) : NotFace s y := fun r0 h0 => by
  obtain ⟨c2, r2, m2, -, -, q3, -, kP, hkP, hkPi⟩ := Cond.selects_spec w7
  have e1 := findClass_of_methodNamed h0
  have e2 := findClass_of_methodNamed q3
  rw [h7, e1] at e2
  rw [← Option.some.inj e2] at hkP
  exact ⟨kP, hkP, hkPi⟩
section Calls
variable {y : MethodName} {yb : ByteArray} {yl : Nat} {yr : Option FieldType} {rm : Room} {as' : Array Value} {ySF : List Addr} {yL : List Loc} {yQ : Option Value → Heap → List Addr → Prop}
theorem own_back {vm0 : Vm} {len w : Nat} (con : Ocon l Z EL y yb yl yr [] rm as' h ySF yL yQ) (hZ : Z.Warmed39 vm0) (wc : (Jvm.Cond.code y yb yl yr).before a0 Z = true) (wz : (Jvm.Cond.initialized y.cls).before a0 Z = true) (hf : rm.frames + 1 ≤ R.frames) (hl : w + (yl + 11) + rm.locals ≤ R.locals) (hEL : EW Z a0 EL) (H : CHv Z EL vm0 h) (hS : ∀ x ∈ ySF, x < h.size ∧ Safe Z EL vm0 h x) (hTK : (s.setVm vm0).vm.MethodsKnown) (hBelow : (s.setVm vm0).vm.FramesKnown below) :
    BackS l R p e below (s.setVm vm0) args y len w (fun A a => a = as' ∧ A.U.heap = h ∧ A.cells + rm.cells ≤ R.cells ∧ A.slots + rm.slots ≤ R.slots)
      (fun A _ v B => ∃ SFo, yQ v B.U.heap SFo ∧ (∀ x ∈ SFo, x < B.U.heap.size ∧ Safe Z EL B.U.vm B.U.heap x) ∧ B.locs = A.locs ++ yL ∧ B.cells = A.cells + rm.cells ∧ B.slots = A.slots + rm.slots ∧ CHr Z EL vm0 h B.U.vm B.U.heap) :=
  BackS.of_freeWG (bytes := yb) (maxL := yl) (ret := yr) (E := fun _ first o t L k n => L = yL ∧ k = rm.cells ∧ n = rm.slots ∧ (∃ v SFo, o = .returned v ∧ yQ v t.heap SFo ∧ ∀ x ∈ SFo, x < t.heap.size ∧ Safe Z EL t.vm t.heap x) ∧ CHr Z EL first.vm first.heap t.vm t.heap) con hf hl
    (fun m meth c A a Y hp => have hU : Z.Warmed39 A.U.vm := wtrans (s := s.setVm vm0) hZ Y.warmed
      ⟨by show (Jvm.Cond.and _ .tt).before a A.U = true; rw [Cond.before_and, mv hU wc]; rfl, mv hU wc, mv hU wz, hp.2.2.1, hp.2.2.2⟩)
    (fun m meth c A a g mk Y hp => ⟨hp.1, wtrans (s := s.setVm vm0) hZ Y.warmed, hp.2.1, (CHv.at Y hZ hEL H).1, fun x hx => ⟨(hS x hx).1, (CHv.at Y hZ hEL H).safe (hS x hx).1 (hS x hx).2⟩⟩) (fun m meth c A a g mk Y _ hg => known_frames Y hg hTK hBelow)
    (fun _ _ _ _ ⟨v, SFo, h1, h2, h2', h3, h4⟩ => ⟨yL, _, _, h4, rfl, rfl, rfl, ⟨v, SFo, h1, h2, h2'⟩, h3⟩)
    (fun m meth c A a g mk v t L k n Y hp _ _ ⟨e0, e1, e2, ⟨v', SFo, e3, e4, e4'⟩, e5⟩ => by
      cases e3; subst e0 e1 e2
      refine ⟨SFo, e4, e4', rfl, rfl, rfl, (CHv.at Y hZ hEL H).trans ?_⟩
      rw [← hp.2.1]; exact e5)
theorem own_after {SFo : List Addr} (W : Owk p l e R s m args below meth c Z a0 EL L0 own nm bs ml rt T h SF k j) {vm0 vm1 : Vm} {k0 : Nat} {B : Pt} (hS0 : s.Since vm0 k0) (hk0 : k0 ≤ h.size) (hZ : Z.Warmed39 vm0) (C0 : CHr Z EL s.vm s.heap vm0 h) (hsf : ∀ x ∈ SF, Safe Z EL vm0 h x) (hL : ∀ q ∈ yL, q ∈ L0 ∨ s.heap.size ≤ q.base) (hcl : k + rm.cells ≤ R.cells) (hsl : j + rm.slots ≤ R.slots)
    (X : Stand p l e R ((s.setVm vm0).setVm B.U.vm) m args below meth c B.U B.locs B.cells B.slots) (hS : (s.setVm vm0).Since B.U.vm B.U.heap.size) (hg : h.size ≤ B.U.heap.size) (hso : ∀ x ∈ SFo, x < B.U.heap.size ∧ Safe Z EL B.U.vm B.U.heap x) (el : B.locs = L0 ++ yL) (ec : B.cells = k + rm.cells) (es : B.slots = j + rm.slots) (C : CHr Z EL vm0 h B.U.vm B.U.heap) : Owk p l e R s m args below meth c Z a0 EL L0 own nm bs ml rt B.U B.U.heap (SFo ++ SF) (k + rm.cells) (j + rm.slots) := by
  rw [el, ec, es] at X
  have X2 := X.sift (L' := L0) (fun x hx => by
    rcases List.mem_append.mp hx with q | q
    · exact Or.inl q
    · exact hL x q)
  have hS2 : s.Since B.U.vm B.U.heap.size := hS0.trans hS (Nat.le_trans hk0 hg)
  exact ⟨W.1, rfl, fun x hx => (List.mem_append.mp hx).elim (fun q => (hso x q).1) (fun q => Nat.lt_of_lt_of_le (W.2.2.1 x q) hg), hcl, hsl, B.U.vm, _, X2, State.Warmed39.trans (t := s.setVm vm0) hZ hS.1, hS2, Nat.le_refl _, C0.trans C, fun x hx => (List.mem_append.mp hx).elim (fun q => (hso x q).2) (fun q => C.safe (W.2.2.1 x q) (hsf x q))⟩
theorem g_static (W : Owk p l e R s m args below meth c Z a0 EL L0 own nm bs ml rt T h SF k j) {pc pc' idx w : Nat} {ls : Array Slot} {argsL st stk : List Value} {ps : List FieldType} (hd : decode bs pc = .ok (.invokestatic idx, 3)) (hp : pc' = pc + 3) (w1 : (Jvm.Cond.methodLink own idx y).before a0 Z = true) (w2 : (Jvm.Cond.static y).before a0 Z = true) (w3 : (Jvm.Cond.initialized y.cls).before a0 Z = true) (w4 : (Jvm.Cond.code y yb yl yr).before a0 Z = true)
    (hy : y.cls ≠ "java/lang/invoke/MethodHandle" ∧ y.cls ≠ "java/lang/invoke/VarHandle") (con : Ocon l Z EL y yb yl yr [] rm as' h ySF yL yQ) (hpd : parseMethodDescriptor y.desc = some ⟨ps, yr⟩) (hln : argsL.length = ps.length) (hstk : stk = argsL.reverse ++ st) (has : as' = argsL.toArray) (hsz : ls.size = ml) (hf : rm.frames + 1 ≤ R.frames) (hW : (st.map fun v => v.category).sum ≤ w) (hlo : w + (yl + 11) + rm.locals ≤ R.locals) (hcl : k + rm.cells ≤ R.cells) (hsl : j + rm.slots ≤ R.slots) (hSF : ∀ x ∈ ySF, x ∈ SF) (hL : ∀ q ∈ yL, q ∈ L0 ∨ s.heap.size ≤ q.base)
    (K : ∀ v T' h' SFo, yQ v h' SFo → Owk p l e R s m args below meth c Z a0 EL L0 own nm bs ml rt T' h' (SFo ++ SF) (k + rm.cells) (j + rm.slots) → Ogo p l e R s m args below meth c Z a0 EL L0 own nm bs ml rt T' (mkF m pc' ls (v.toList ++ st)) Q) : Ogo p l e R s m args below meth c Z a0 EL L0 own nm bs ml rt T (mkF m pc ls stk) Q := by
  subst hp hstk has
  obtain ⟨x1, x2, x3, x4, x5, vm0, k0, X, x6, x7, x8, x9, x10⟩ := id W
  have m1 : (Jvm.Cond.code y yb yl yr).before args (s.setVm vm0) = true := mvT (s := s.setVm vm0) x6 w4
  obtain ⟨mk, hnamed⟩ := Cond.code_named m1
  obtain ⟨methM, cM, hmethM, -, -, -, -, -, -, hsigM⟩ := Cond.code_spec hnamed m1
  obtain ⟨v, vm1, B, -, X', hS', hg', ⟨SFo, q1, q0, q2, q3, q4, q5⟩, come⟩ := X.staticBackS W.ex (W.fc x7) (mvT (s := s.setVm vm0) x6 w1) (mvT (s := s.setVm vm0) x6 w2) (mvT (s := s.setVm vm0) x6 w3) hnamed hmethM hsigM hy
    (own_back (w := w) con x6 w4 w3 hf hlo x1.2.1 x9.1 (fun x hx => ⟨x3 x (hSF x hx), x10 x (hSF x hx)⟩) (W.kn x7).1 (W.kn x7).2) (g := mkF m pc ls (argsL.reverse ++ st)) rfl (by rw [x1.2.2.2.2.1]; exact hsz) (Steps.refl _) (lenOf hpd hln) rfl (by show 2 * 0 + _ ≤ _; omega) (W.hb hd) (fun vm1 _ => ⟨rfl, x2, hcl, hsl⟩)
  rw [x2] at hg'
  exact own_step (fun t q => come.trans q) (K v B.U B.U.heap SFo q1 (own_after (vm1 := vm1) W x7 x8 x6 x9 x10 hL hcl hsl X' hS' hg' q0 q2 q3 q4 q5))
theorem g_special (W : Owk p l e R s m args below meth c Z a0 EL L0 own nm bs ml rt T h SF k j) {pc pc' idx w : Nat} {ls : Array Slot} {a : Addr} {argsL st stk : List Value} {ps : List FieldType} (hd : decode bs pc = .ok (.invokespecial idx, 3)) (hp : pc' = pc + 3) (hy1 : y.name = "<init>") (w1 : (Jvm.Cond.methodLink own idx y).before a0 Z = true) (w2 : (Jvm.Cond.instanceMethod y).before a0 Z = true) (w3 : (Jvm.Cond.initialized y.cls).before a0 Z = true) (w4 : (Jvm.Cond.code y yb yl none).before a0 Z = true)
    (hy : y.cls ≠ "java/lang/invoke/MethodHandle" ∧ y.cls ≠ "java/lang/invoke/VarHandle") (con : Ocon l Z EL y yb yl none [] rm as' h ySF yL yQ) (hpd : parseMethodDescriptor y.desc = some ⟨ps, none⟩) (hln : argsL.length = ps.length) (hstk : stk = argsL.reverse ++ .ref a :: st) (has : as' = (.ref a :: argsL).toArray) (hsz : ls.size = ml) (hf : rm.frames + 1 ≤ R.frames) (hW : (st.map fun v => v.category).sum ≤ w) (hlo : w + (yl + 11) + rm.locals ≤ R.locals) (hcl : k + rm.cells ≤ R.cells) (hsl : j + rm.slots ≤ R.slots) (hSF : ∀ x ∈ ySF, x ∈ SF) (hL : ∀ q ∈ yL, q ∈ L0 ∨ s.heap.size ≤ q.base)
    (K : ∀ v T' h' SFo, yQ v h' SFo → Owk p l e R s m args below meth c Z a0 EL L0 own nm bs ml rt T' h' (SFo ++ SF) (k + rm.cells) (j + rm.slots) → Ogo p l e R s m args below meth c Z a0 EL L0 own nm bs ml rt T' (mkF m pc' ls (v.toList ++ st)) Q) : Ogo p l e R s m args below meth c Z a0 EL L0 own nm bs ml rt T (mkF m pc ls stk) Q := by
  subst hp hstk has
  obtain ⟨x1, x2, x3, x4, x5, vm0, k0, X, x6, x7, x8, x9, x10⟩ := id W
  obtain ⟨v, vm1, B, -, X', hS', hg', ⟨SFo, q1, q0, q2, q3, q4, q5⟩, come⟩ := X.specialBackS W.ex hy1 (W.fc x7) (mvT (s := s.setVm vm0) x6 w1) (mvT (s := s.setVm vm0) x6 w2) (mvT (s := s.setVm vm0) x6 w4) hy
    (own_back (w := w) con x6 w4 w3 hf hlo x1.2.1 x9.1 (fun x hx => ⟨x3 x (hSF x hx), x10 x (hSF x hx)⟩) (W.kn x7).1 (W.kn x7).2) (g := mkF m pc ls (argsL.reverse ++ .ref a :: st)) rfl (by rw [x1.2.2.2.2.1]; exact hsz) (Steps.refl _) (lenOf hpd hln) rfl (by show 2 * 0 + _ ≤ _; omega) (W.hb hd) (fun vm1 _ => ⟨rfl, x2, hcl, hsl⟩)
  rw [x2] at hg'
  exact own_step (fun t q => come.trans q) (K v B.U B.U.heap SFo q1 (own_after (vm1 := vm1) W x7 x8 x6 x9 x10 hL hcl hsl X' hS' hg' q0 q2 q3 q4 q5))
theorem g_virtual (W : Owk p l e R s m args below meth c Z a0 EL L0 own nm bs ml rt T h SF k j) {pc pc' idx w : Nat} {ls : Array Slot} {a : Addr} {C : String} {yd : MethodName} {argsL st stk : List Value} {ps : List FieldType} (hd : decode bs pc = .ok (.invokevirtual idx, 3)) (hp : pc' = pc + 3) (w1 : (Jvm.Cond.methodLink own idx yd).before a0 Z = true) (w5 : (Jvm.Cond.declares yd).before a0 Z = true) {C7 : String} {y7 : MethodName} (h7 : y7.cls = yd.cls) (w7 : (Jvm.Cond.selects C7 y7 y7).before a0 Z = true) (w6 : (Jvm.Cond.selects C yd y).before a0 Z = true) (w2 : (Jvm.Cond.instanceMethod y).before a0 Z = true) (w3 : (Jvm.Cond.initialized y.cls).before a0 Z = true) (w4 : (Jvm.Cond.code y yb yl yr).before a0 Z = true)
    (hy : yd.cls ≠ "java/lang/invoke/MethodHandle" ∧ yd.cls ≠ "java/lang/invoke/VarHandle") (E : Exa Z h a C) (con : Ocon l Z EL y yb yl yr [] rm as' h ySF yL yQ) (hpd : parseMethodDescriptor yd.desc = some ⟨ps, yr⟩) (hln : argsL.length = ps.length) (hstk : stk = argsL.reverse ++ .ref a :: st) (has : as' = (.ref a :: argsL).toArray) (hsz : ls.size = ml) (hf : rm.frames + 1 ≤ R.frames) (hW : (st.map fun v => v.category).sum ≤ w) (hlo : w + (yl + 11) + rm.locals ≤ R.locals) (hcl : k + rm.cells ≤ R.cells) (hsl : j + rm.slots ≤ R.slots) (hSF : ∀ x ∈ ySF, x ∈ SF) (hL : ∀ q ∈ yL, q ∈ L0 ∨ s.heap.size ≤ q.base)
    (K : ∀ v T' h' SFo, yQ v h' SFo → Owk p l e R s m args below meth c Z a0 EL L0 own nm bs ml rt T' h' (SFo ++ SF) (k + rm.cells) (j + rm.slots) → Ogo p l e R s m args below meth c Z a0 EL L0 own nm bs ml rt T' (mkF m pc' ls (v.toList ++ st)) Q) : Ogo p l e R s m args below meth c Z a0 EL L0 own nm bs ml rt T (mkF m pc ls stk) Q := by
  subst hp hstk has
  obtain ⟨x1, x2, x3, x4, x5, vm0, k0, X, x6, x7, x8, x9, x10⟩ := id W
  obtain ⟨cq, kq, qa, -, qc⟩ := isOf (s := s.setVm vm0) x6 x2 E
  obtain ⟨v, vm1, B, -, X', hS', hg', ⟨SFo, q1, q0, q2, q3, q4, q5⟩, come⟩ := X.virtualBackS W.ex (W.fc x7) (mvT (s := s.setVm vm0) x6 w1) (mvT (s := s.setVm vm0) x6 w5) (own_nface h7 (mvT (args := #[]) (s := s.setVm vm0) x6 w7)) (mvT (s := s.setVm vm0) x6 w6) (mvT (s := s.setVm vm0) x6 w2) hy
    (own_back (w := w) con x6 w4 w3 hf hlo x1.2.1 x9.1 (fun x hx => ⟨x3 x (hSF x hx), x10 x (hSF x hx)⟩) (W.kn x7).1 (W.kn x7).2) qa qc (g := mkF m pc ls (argsL.reverse ++ .ref a :: st)) rfl (by rw [x1.2.2.2.2.1]; exact hsz) (Steps.refl _) (lenOf hpd hln) rfl (by show 2 * 0 + _ ≤ _; omega) (W.hb hd) (fun vm1 _ => ⟨rfl, x2, hcl, hsl⟩)
  rw [x2] at hg'
  exact own_step (fun t q => come.trans q) (K v B.U B.U.heap SFo q1 (own_after (vm1 := vm1) W x7 x8 x6 x9 x10 hL hcl hsl X' hS' hg' q0 q2 q3 q4 q5))
/-- a virtual call paid by a narrow law that leaves the heap as it is -/
theorem g_virtualB (W : Owk p l e R s m args below meth c Z a0 EL L0 own nm bs ml rt T h SF k j) {pc pc' idx w : Nat} {ls : Array Slot} {a : Addr} {C : String} {yd : MethodName} {argsL st stk : List Value} {ps : List FieldType} {yR : Option Value → Prop} (hd : decode bs pc = .ok (.invokevirtual idx, 3)) (hp : pc' = pc + 3) (w1 : (Jvm.Cond.methodLink own idx yd).before a0 Z = true) (w5 : (Jvm.Cond.declares yd).before a0 Z = true) {C7 : String} {y7 : MethodName} (h7 : y7.cls = yd.cls) (w7 : (Jvm.Cond.selects C7 y7 y7).before a0 Z = true) (w6 : (Jvm.Cond.selects C yd y).before a0 Z = true) (w2 : (Jvm.Cond.instanceMethod y).before a0 Z = true)
    (hy : yd.cls ≠ "java/lang/invoke/MethodHandle" ∧ yd.cls ≠ "java/lang/invoke/VarHandle") (E : Exa Z h a C)
    (pay : ∀ vm0, Z.Warmed39 vm0 → Back l R p e below (s.setVm vm0) args y 3 w (fun P a' => a' = as' ∧ P.U.heap = h ∧ P.cells + 0 ≤ R.cells ∧ P.slots + 0 ≤ R.slots) (fun P _ v B => ∃ L, (yR v ∧ L = [] ∧ B.U.heap = h) ∧ B.locs = P.locs ++ L ∧ B.cells = P.cells + 0 ∧ B.slots = P.slots + 0))
    (hpd : parseMethodDescriptor yd.desc = some ⟨ps, yr⟩) (hln : argsL.length = ps.length) (hstk : stk = argsL.reverse ++ .ref a :: st) (has : as' = (.ref a :: argsL).toArray) (hsz : ls.size = ml) (hW : (st.map fun v => v.category).sum ≤ w)
    (K : ∀ v T', yR v → Owk p l e R s m args below meth c Z a0 EL L0 own nm bs ml rt T' h SF k j → Ogo p l e R s m args below meth c Z a0 EL L0 own nm bs ml rt T' (mkF m pc' ls (v.toList ++ st)) Q) : Ogo p l e R s m args below meth c Z a0 EL L0 own nm bs ml rt T (mkF m pc ls stk) Q := by
  subst hp hstk has
  obtain ⟨x1, x2, x3, x4, x5, vm0, k0, X, x6, x7, x8, x9, x10⟩ := id W
  obtain ⟨cq, kq, qa, -, qc⟩ := isOf (s := s.setVm vm0) x6 x2 E
  obtain ⟨v, vm1, ⟨T', L', k', j'⟩, -, X', ⟨L, ⟨q1, q2, q3⟩, q4, q5, q6⟩, come⟩ := X.virtualBack W.ex (W.fc x7) (mvT (s := s.setVm vm0) x6 w1) (mvT (s := s.setVm vm0) x6 w5) (own_nface h7 (mvT (args := #[]) (s := s.setVm vm0) x6 w7)) (mvT (s := s.setVm vm0) x6 w6) (mvT (s := s.setVm vm0) x6 w2) hy
    (pay vm0 x6) qa qc (g := mkF m pc ls (argsL.reverse ++ .ref a :: st)) rfl (by rw [x1.2.2.2.2.1]; exact hsz) (Steps.refl _) (lenOf hpd hln) rfl (by show 2 * 0 + _ ≤ _; omega) (W.hb hd) (fun vm1 _ => ⟨rfl, x2, x4, x5⟩)
  dsimp only [Pt.U, Pt.locs, Pt.cells, Pt.slots] at X' q3 q4 q5 q6 come
  subst q2 q4 q5 q6
  rw [List.append_nil] at X'
  exact own_step (fun t q => come.trans q) (K v T' q1 ⟨x1, q3, x3, x4, x5, vm0, k0, X', x6, x7, x8, x9, x10⟩)
end Calls
end OwnLayer
/-! plain facts on numbers and lists -/
open StrChars in
theorem own_lo8 (x : Int32) : nar .byte (x.toInt8.toInt32) = lo8 x := by
  show x.toInt8.toInt32.toInt8.toInt32 = x.toInt8.toInt32
  rw [Int8.toInt8_toInt32]
theorem own_lt {i n : Nat} (hn : n < 2 ^ 30) (h : i < n) : Int32.ofNat i < Int32.ofNat n := Jvm.Free.XT.lt32 (by omega) h
theorem own_succ (i : Nat) : Int32.ofNat i + Int32.ofInt 1 = Int32.ofNat (i + 1) := by rw [Int32.ofNat_add]; rfl
theorem own_nn {n : Nat} (hn : n < 2 ^ 30) : ¬ Int32.ofNat n < 0 := Int32.ofNat_not_neg (by omega)
theorem own_clamp {n : Nat} (hn : n < 2 ^ 30) : (Int32.ofNat n).toNatClampNeg = n := Jvm.Free.XT.n32 (by omega)
theorem own_getI (cs : List Int32) (dv : Value) {i : Nat} (h : i < cs.length) : (cs.map Value.int).getD i dv = .int (cs.getD i 0) := by
  simp [List.getD_eq_getElem?_getD, h]
open StrChars in
/-- the byte[] when the first r chars are laid -/
def own_cmp (cs : List Int32) (n r : Nat) : List Value := ((cs.take r).map fun c => Value.int (lo8 c)) ++ List.replicate (n - r) (.int 0)
theorem own_cmp0 (cs : List Int32) (n : Nat) : own_cmp cs n 0 = List.replicate n (.int 0) := by simp [own_cmp]
open StrChars in
theorem own_cmpn (cs : List Int32) {n : Nat} (hn : cs.length = n) : own_cmp cs n n = cs.map fun c => Value.int (lo8 c) := by subst hn; simp [own_cmp]
theorem own_cmplen (cs : List Int32) {n r : Nat} (hn : cs.length = n) (h : r ≤ n) : (own_cmp cs n r).length = n := by simp [own_cmp, hn]; omega
open StrChars in
theorem own_cmpset (cs : List Int32) {n i : Nat} (hn : cs.length = n) (h : i < n) : (own_cmp cs n i).set i (.int (lo8 (cs.getD i 0))) = own_cmp cs n (i + 1) := by
  have hl : i < cs.length := by omega
  have e1 : cs.take (i + 1) = cs.take i ++ [cs.getD i 0] := by
    rw [List.take_succ]; simp [List.getD_eq_getElem?_getD, hl]
  have e2 : ((cs.take i).map fun c => Value.int (lo8 c)).length = i := by simp; omega
  have e3 : List.replicate (n - i) (Value.int 0) = .int 0 :: List.replicate (n - (i + 1)) (.int 0) := by
    rw [show n - i = n - (i + 1) + 1 by omega]; rfl
  unfold own_cmp
  rw [e1, List.map_append, e3, List.set_append_right _ _ (by omega), e2]
  simp
open StrChars.Road in
/-- x is a String of the chars cs -/
def OStr (Z : State) (h : Heap) (x : Addr) (cs : List Int32) : Prop := Exa Z h x "java/lang/String" ∧ (∀ c ∈ cs, ¬ c < 0 ∧ ¬ (65535 : Int32) < c) ∧ ∃ (t : Addr) (kb : ClassId) (cd N2 : Int32) (vs : List Value), Fld Z h x "java/lang/String" "value" "[B" (.ref t) ∧ Fld Z h x "java/lang/String" "coder" "B" (.int cd) ∧ Arv Z h t kb .byte N2 vs (.int 0) ∧ CodA cs cd N2 vs
theorem OStr.ext {Z : State} {h h' : Heap} {x : Addr} {cs : List Int32} (S : OStr Z h x cs) (E : Ext h h') : OStr Z h' x cs := by
  obtain ⟨s1, s2, t, kb, cd, N2, vs, s3, s4, s5, s6⟩ := S
  exact ⟨s1.ext E, s2, t, kb, cd, N2, vs, s3.ext E, s4.ext E, s5.ext E, s6⟩
theorem own_ext_wr {h h1 h2 : Heap} {a : Addr} {sl : Nat} {v : Value} (E : Ext h h1) (W : Wr h1 h2 a sl v) (q : h.size ≤ a) : Ext h h2 := by
  refine ⟨by rw [W.size]; exact E.1, fun x c hx => ?_⟩
  obtain ⟨cb', e1, -, -, -, e2, -⟩ := wr_at W (E.2 x c hx)
  have := (Array.getElem?_eq_some_iff.mp hx).1
  rw [e2 (Nat.ne_of_lt (Nat.lt_of_lt_of_le this q))] at e1; exact e1
theorem own_ext_keep {h h1 h2 : Heap} {ws : List Addr} (E : Ext h h1) (K : Keep h1 h2 ws) (q : ∀ x ∈ ws, h.size ≤ x) : Ext h h2 := by
  refine ⟨Nat.le_trans E.1 K.1, fun x c hx => K.2.1 x c (E.2 x c hx) fun z => ?_⟩
  have := (Array.getElem?_eq_some_iff.mp hx).1
  have := q x z
  omega
theorem own_ext_tr {h h1 h2 : Heap} (E : Ext h h1) (F : Ext h1 h2) : Ext h h2 := ⟨Nat.le_trans E.1 F.1, fun x c hx => F.2 x c (E.2 x c hx)⟩
theorem own_ext_rf (h : Heap) : Ext h h := ⟨Nat.le_refl _, fun _ _ q => q⟩
theorem own_keep_ext {h h' : Heap} {ws : List Addr} (E : Ext h h') : Keep h h' ws := (Keep.refl h ws).ext E
theorem own_pad0 {Z : State} {h : Heap} {a : Addr} {k : ClassId} {ty : FieldType} {N : Int32} {dv : Value} (n : Nat) (A : Arv Z h a k ty N [] dv) : Arv Z h a k ty N (List.replicate n dv) dv := A.pad fun i => by simpa using pad_rep [] dv n i
theorem own_b0 : ∀ c ∈ ([] : List Int32), ¬ c < 0 ∧ ¬ (255 : Int32) < c := fun _ q => nomatch q
theorem own_bc {c : Int32} {cs : List Int32} (q : ¬ c < 0 ∧ ¬ (255 : Int32) < c) (r : ∀ c ∈ cs, ¬ c < 0 ∧ ¬ (255 : Int32) < c) : ∀ x ∈ c :: cs, ¬ x < 0 ∧ ¬ (255 : Int32) < x := fun x hx => by
  rcases List.mem_cons.mp hx with rfl | z
  · exact q
  · exact r x z
theorem own_b255 (w : Int32) : ¬ (w &&& 255) < 0 ∧ ¬ (255 : Int32) < (w &&& 255) := by
  have q := c_and w 255 (by decide)
  have e : (255 : Int32).toInt = 255 := rfl
  have e0 : (0 : Int32).toInt = 0 := rfl
  rw [Int32.lt_iff_toInt_lt, Int32.lt_iff_toInt_lt]
  omega
theorem own_rem (pp : Int32) {n : Nat} (hn : n < 2 ^ 30) (hp : 0 < n) : ∃ i, i < n ∧ (pp &&& 2147483647) % Int32.ofNat n = Int32.ofNat i := by
  have q := (c_and pp 2147483647 (by decide)).1
  have e : (Int32.ofNat n).toInt = n := Int32.toInt_ofNat_of_lt (by omega)
  have r := (c_iremV (pp &&& 2147483647) (Int32.ofNat n)).1 q (by omega)
  refine ⟨((pp &&& 2147483647) % Int32.ofNat n).toInt.toNat, by omega, Int32.toInt_inj.mp ?_⟩
  rw [Int32.toInt_ofNat_of_lt (by omega)]
  omega
theorem own_bset (cs : List Int32) (i : Nat) {v : Int32} (hv : ¬ v < 0 ∧ ¬ (255 : Int32) < v) (h : ∀ c ∈ cs, ¬ c < 0 ∧ ¬ (255 : Int32) < c) : ∀ c ∈ cs.set i v, ¬ c < 0 ∧ ¬ (255 : Int32) < c := fun c hc => by
  rcases List.mem_or_eq_of_mem_set hc with z | rfl
  · exact h c z
  · exact hv
theorem own_dbl {i : Nat} (h : i < 2 ^ 29) : Int32.ofNat i <<< ((1 : Int32) &&& 31) = Int32.ofNat (2 * i) := by
  have q := c_ishl (Int32.ofNat i) 1 1 (by decide)
  have e1 : (Int32.ofNat i).toInt = i := Int32.toInt_ofNat_of_lt (by omega)
  have e2 : (Int32.ofNat (2 * i)).toInt = ((2 * i : Nat) : Int) := Int32.toInt_ofNat_of_lt (by omega)
  have r := rng32 (Int32.ofNat i <<< ((1 : Int32) &&& 31))
  apply Int32.toInt_inj.mp
  rw [e2]
  rw [e1] at q
  omega
theorem own_b16 {cs : List Int32} (h : ∀ c ∈ cs, ¬ c < 0 ∧ ¬ (255 : Int32) < c) : ∀ c ∈ cs, ¬ c < 0 ∧ ¬ (65535 : Int32) < c := fun c hc => ⟨(h c hc).1, fun q => (h c hc).2 (Int32.lt_trans (by decide) q)⟩
theorem own_all {cs : List Int32} {n : Nat} (hn : cs.length = n) (h : ∀ i, i < n → ¬ (255 : Int32) < cs.getD i 0) : ∀ c ∈ cs, ¬ (255 : Int32) < c := fun c hc => by
  obtain ⟨i, hi, rfl⟩ := List.getElem_of_mem hc
  have q := h i (by omega)
  have e : cs.getD i 0 = cs[i] := by simp [List.getD_eq_getElem?_getD, hi]
  rw [e] at q; exact q
open StrChars StrChars.Road in
theorem own_wlen : ∀ cs : List Int32, (wideBytes cs).length = 2 * cs.length
  | [] => rfl
  | c :: cs => by simp [wideBytes, own_wlen cs]; omega
open StrChars StrChars.Road in
/-- the byte[] when the first i chars are laid, two bytes each -/
def own_wide (cs : List Int32) (n i : Nat) : List Value := wideBytes (cs.take i) ++ List.replicate (2 * (n - i)) (.int 0)
theorem own_wide0 (cs : List Int32) (n : Nat) : own_wide cs n 0 = List.replicate (2 * n) (.int 0) := by simp [own_wide, StrChars.Road.wideBytes]
theorem own_widen (cs : List Int32) {n : Nat} (hn : cs.length = n) : own_wide cs n n = StrChars.Road.wideBytes cs := by subst hn; simp [own_wide]
theorem own_widelen (cs : List Int32) {n i : Nat} (hn : cs.length = n) (h : i ≤ n) : (own_wide cs n i).length = 2 * n := by simp [own_wide, own_wlen]; omega
open StrChars StrChars.Road in
theorem own_wapp : ∀ (cs : List Int32) (c : Int32), wideBytes (cs ++ [c]) = wideBytes cs ++ [.int (lo8 c), .int (hi8 c)]
  | [], c => rfl
  | d :: cs, c => by simp [wideBytes, own_wapp cs c]
open StrChars StrChars.Road in
theorem own_wideset (cs : List Int32) {n i : Nat} (hn : cs.length = n) (h : i < n) : ((own_wide cs n i).set (2 * i) (.int (lo8 (cs.getD i 0)))).set (2 * i + 1) (.int (hi8 (cs.getD i 0))) = own_wide cs n (i + 1) := by
  have hl : i < cs.length := by omega
  have e1 : cs.take (i + 1) = cs.take i ++ [cs.getD i 0] := by
    rw [List.take_succ]; simp [List.getD_eq_getElem?_getD, hl]
  have e2 : (wideBytes (cs.take i)).length = 2 * i := by rw [own_wlen, List.length_take]; omega
  have e3 : List.replicate (2 * (n - i)) (Value.int 0) = .int 0 :: .int 0 :: List.replicate (2 * (n - (i + 1))) (.int 0) := by
    rw [show 2 * (n - i) = 2 * (n - (i + 1)) + 1 + 1 by omega]; rfl
  unfold own_wide
  rw [e1, own_wapp, e3, List.set_append_right _ _ (by omega), List.set_append_right _ _ (by omega), e2]
  simp
theorem own_neg {n : Nat} (h0 : 0 < n) (h : n < 2 ^ 29) : (XT.ushr (Int32.ofNat n - Int32.ofNat (2 * n)) 31).toInt8.toInt32 = 1 := by
  have e1 : (Int32.ofNat n).toInt = n := Int32.toInt_ofNat_of_lt (by omega)
  have e2 : (Int32.ofNat (2 * n)).toInt = ((2 * n : Nat) : Int) := Int32.toInt_ofNat_of_lt (by omega)
  have q := c_isub (Int32.ofNat n) (Int32.ofNat (2 * n))
  have r := rng32 (Int32.ofNat n - Int32.ofNat (2 * n))
  have u := c_iushr (Int32.ofNat n - Int32.ofNat (2 * n)) 31 31 (by decide) (by decide)
  have e3 : XT.ushr (Int32.ofNat n - Int32.ofNat (2 * n)) 31 = 1 := by
    apply Int32.toInt_inj.mp
    show ((Int32.ofNat n - Int32.ofNat (2 * n)).toUInt32 >>> ((31 : Int32) &&& 31).toUInt32).toInt32.toInt = 1
    rw [u]
    rw [e1, e2] at q
    omega
  rw [e3]; rfl
theorem own_mem {cs : List Int32} {i : Nat} (h : i < cs.length) : cs.getD i 0 ∈ cs := by
  have e : cs.getD i 0 = cs[i] := by simp [List.getD_eq_getElem?_getD, h]
  rw [e]; exact List.getElem_mem _
theorem own_nlt {i n : Nat} (hi : i < 2 ^ 30) (h : n ≤ i) : ¬ Int32.ofNat i < Int32.ofNat n := fun q => by
  rw [Int32.lt_iff_toInt_lt, Int32.toInt_ofNat_of_lt (by omega), Int32.toInt_ofNat_of_lt (by omega)] at q
  omega
theorem own_allg {bl : List Int32} (h : ∀ i, i < bl.length → ¬ bl.getD i 0 < (0 : Int32)) : ∀ b ∈ bl, ¬ b < (0 : Int32) := fun c hc => by
  obtain ⟨i, hi, rfl⟩ := List.getElem_of_mem hc
  have q := h i hi
  have e : bl.getD i 0 = bl[i] := by simp [List.getD_eq_getElem?_getD, hi]
  rw [e] at q; exact q
theorem own_inj {a b : Nat} (ha : a < 2 ^ 30) (hb : b < 2 ^ 30) (h : Int32.ofNat a = Int32.ofNat b) : a = b := by
  have q := congrArg Int32.toInt h
  rw [Int32.toInt_ofNat_of_lt (by omega), Int32.toInt_ofNat_of_lt (by omega)] at q
  omega
/-! facts of the start, out of the sheet's words -/
theorem own_len {Z : State} {args : Array Value} {t : Term} {a : Addr} {cl : Cell} {ty : FieldType} {N : Int32} (ev : t.eval args Z none [] Z = some (.ref a)) (A : Arr Z Z.heap a cl ty) (h : (Jvm.Cond.eq (.length t) (.int N)).value args Z none Z [] = some true) : cl.slots.size < 2 ^ 31 ∧ cl.slots.size.toInt32 = N := by
  have e := eqv_i (Term.int_eval N) h
  have ha : Z.arrayAt? a = some cl := A.fin (Vm.Alike.refl _)
  by_cases q : cl.slots.size < 2 ^ 31
  · rw [len_f ev ha q] at e
    exact ⟨q, Value.int.inj (Option.some.inj e)⟩
  · simp [Term.eval, ev, ha] at e
    exact absurd e.1 q
theorem own_el {Z : State} {args : Array Value} {t : Term} {a : Addr} {cl : Cell} {j b : Int32} (ev : t.eval args Z none [] Z = some (.ref a)) (hc : Z.heap[a]? = some cl) (h : (Jvm.Cond.eq (.elem t (.int j)) (.int b)).value args Z none Z [] = some true) : cl.slots[j.toNatClampNeg]? = some (.int b) := (elem_in (eqv_i (Term.int_eval b) h) ev (Term.int_eval j) hc).2
theorem own_eqR {Z : State} {args : Array Value} {X F : Term} {y : Addr} (hF : F.eval args Z none [] Z = some (.ref y)) (h : (Jvm.Cond.eq X F).value args Z none Z [] = some true) : X.eval args Z none [] Z = some (.ref y) := by
  obtain ⟨x, y', e1, e2, k1, k2⟩ := cmp_v (Or.inl h)
  cases hF.symm.trans e2
  have hx : x.isRef = true := by cases x <;> simp_all [Kin, Value.isRef]
  have q := gotT (eq_R e1 hF hx rfl) h
  rw [e1, q]
theorem own_elR {Z : State} {args : Array Value} {t F : Term} {a y : Addr} {cl : Cell} {j : Int32} (ev : t.eval args Z none [] Z = some (.ref a)) (hc : Z.heap[a]? = some cl) (hF : F.eval args Z none [] Z = some (.ref y)) (h : (Jvm.Cond.eq (.elem t (.int j)) F).value args Z none Z [] = some true) : cl.slots[j.toNatClampNeg]? = some (.ref y) := (elem_in (own_eqR hF h) ev (Term.int_eval j) hc).2
theorem own_strZ {Z : State} {args : Array Value} {t : Term} {q : Addr} {N : Int32} {cs : List Int32} (hf : Fit Z) (eq : t.eval args Z none [] Z = some (.ref q)) (cx : (Jvm.Cond.exactly t "java/lang/String").value args Z none Z [] = some true) (cc : (Jvm.Cond.eq (.field t "java/lang/String" "coder" "B") (.int 0)).value args Z none Z [] = some true) (ca : (Jvm.Cond.arrayOf (.field t "java/lang/String" "value" "[B") .byte).value args Z none Z [] = some true) (cl : (Jvm.Cond.eq (.length (.field t "java/lang/String" "value" "[B")) (.int N)).value args Z none Z [] = some true)
    (hN : ¬ N < 0) (hl : N.toNatClampNeg = cs.length) (hN' : N = Int32.ofNat cs.length) (hb : ∀ c ∈ cs, ¬ c < 0 ∧ ¬ (255 : Int32) < c) (H : ∀ (b : Addr) (cell : Cell), (Term.field t "java/lang/String" "value" "[B").eval args Z none [] Z = some (.ref b) → Z.heap[b]? = some cell → HasL cell 0 (cs.map fun c => Value.int (StrChars.lo8 c))) : OStr Z Z.heap q cs := by
  obtain ⟨b, eb⟩ := arr_v ca
  obtain ⟨cell, A⟩ := Arr.start eb ca
  obtain ⟨l1, l2⟩ := own_len eb A cl
  have ec := eqv_i (Term.int_eval 0) cc
  refine ⟨Exa.start eq cx, fun c hc => ⟨(hb c hc).1, fun z => (hb c hc).2 (Int32.lt_trans (by decide) z)⟩, b, cell.cls, 0, N, _, Fld.start ((fld_at eq).symm.trans eb), Fld.start ((fld_at eq).symm.trans ec), Arv.start hf A l1 l2 hN (by rw [List.length_map]; exact hl) (H b cell eb A.1), Or.inl ⟨rfl, hN', rfl, fun c hc => (hb c hc).2⟩⟩
theorem own_c0 {P : Jvm.Cond → Prop} : ∀ a ∈ ([] : List Jvm.Cond), P a := fun _ q => nomatch q
theorem own_cc {P : Jvm.Cond → Prop} {c : Jvm.Cond} {L : List Jvm.Cond} (q : P c) (r : ∀ a ∈ L, P a) : ∀ a ∈ c :: L, P a := fun a ha => by
  rcases List.mem_cons.mp ha with rfl | z
  · exact q
  · exact r a z
/-! super calls, arrays with their class, exceptions, arraycopy into an old array -/
section OwnLayerK
open Jvm.Free.Exc
variable {p : Program} {l : Launch} {e : Env} {R : Room} {s : State} {m : MethodId} {args : Array Value} {below : List Frame} {meth : Method} {c : Code}
variable {Z : State} {a0 : Array Value} {EL : List (String × Nat)} {L0 : List Loc} {own nm : String} {bs : ByteArray} {ml : Nat} {rt : Option FieldType}
variable {T : State} {h : Heap} {SF : List Addr} {k j : Nat} {Q : Option Value → Heap → List Addr → Prop}
variable {y : MethodName} {yb : ByteArray} {yl : Nat} {yr : Option FieldType} {rm : Room} {as' : Array Value} {ySF : List Addr} {yL : List Loc} {yQ : Option Value → Heap → List Addr → Prop}
theorem own_selp {args : Array Value} {s : State} {C : String} {y : MethodName} (hy : y.cls ≠ "java/lang/invoke/MethodHandle" ∧ y.cls ≠ "java/lang/invoke/VarHandle") (hsel : (Jvm.Cond.selects C y y).before args s = true) (hinst : (Jvm.Cond.instanceMethod y).before args s = true) (hpriv : (Jvm.Cond.privateMethod y).before args s = true) : (Jvm.Cond.selects y.cls y y).before args s = true := by
  obtain ⟨mk, methM, hnamed, hmethM, hstM, habM⟩ := Cond.instanceMethod_spec hinst
  obtain ⟨c2, r2, m2, -, -, q3, -, kP, hkP, hkPi⟩ := Cond.selects_spec hsel
  cases hnamed.symm.trans q3
  have hs := selectMethod_private (p := {}) (c := mk.cls) hmethM (Cond.privateMethod_at hpriv mk methM hnamed hmethM)
  simp [Cond.before, Cond.holds, Cond.value, findClass_of_methodNamed hnamed, State.methodFound?_of_named hnamed hy, hnamed, hs, hkP, hkPi]
theorem own_smm {args : Array Value} {s : State} {C7 : String} {y y7 : MethodName} (hy : y.cls ≠ "java/lang/invoke/MethodHandle" ∧ y.cls ≠ "java/lang/invoke/VarHandle") (hinst : (Jvm.Cond.instanceMethod y).before args s = true) (h7 : y7.cls = y.cls) (w7 : (Jvm.Cond.selects C7 y7 y7).before args s = true) : (Jvm.Cond.sameMethod y.cls y.cls y.name y.desc).before args s = true := by
  obtain ⟨mk, methM, hnamed, hmethM, hstM, habM⟩ := Cond.instanceMethod_spec hinst
  obtain ⟨c2, r2, m2, -, -, q3, -, kP, hkP, hkPi⟩ := Cond.selects_spec w7
  have e1 := findClass_of_methodNamed hnamed
  have e2 := findClass_of_methodNamed q3
  rw [h7, e1] at e2
  rw [← Option.some.inj e2] at hkP
  simp [Cond.before, Cond.holds, Cond.value, e1, State.methodFound?_of_named hnamed hy, hnamed, hkP, hkPi]
theorem g_super (W : Owk p l e R s m args below meth c Z a0 EL L0 own nm bs ml rt T h SF k j) {pc pc' idx w : Nat} {ls : Array Slot} {a : Addr} {KC : String} {argsL st stk : List Value} {ps : List FieldType} (hd : decode bs pc = .ok (.invokespecial idx, 3)) (hp : pc' = pc + 3) {C7 : String} {y7 : MethodName} (h7 : y7.cls = y.cls) (w7 : (Jvm.Cond.selects C7 y7 y7).before a0 Z = true) (hy1 : y.name ≠ "<init>") (w1 : (Jvm.Cond.methodLink own idx y).before a0 Z = true) (w2 : (Jvm.Cond.instanceMethod y).before a0 Z = true) (w6 : (Jvm.Cond.superclass own y.cls).before a0 Z = true) (w3 : (Jvm.Cond.initialized y.cls).before a0 Z = true) (w4 : (Jvm.Cond.code y yb yl yr).before a0 Z = true)
    (hy : y.cls ≠ "java/lang/invoke/MethodHandle" ∧ y.cls ≠ "java/lang/invoke/VarHandle") (F : Ins Z h a KC true) (con : Ocon l Z EL y yb yl yr [] rm as' h ySF yL yQ) (hpd : parseMethodDescriptor y.desc = some ⟨ps, yr⟩) (hln : argsL.length = ps.length) (hstk : stk = argsL.reverse ++ .ref a :: st) (has : as' = (.ref a :: argsL).toArray) (hsz : ls.size = ml) (hf : rm.frames + 1 ≤ R.frames) (hW : (st.map fun v => v.category).sum ≤ w) (hlo : w + (yl + 11) + rm.locals ≤ R.locals) (hcl : k + rm.cells ≤ R.cells) (hsl : j + rm.slots ≤ R.slots) (hSF : ∀ x ∈ ySF, x ∈ SF) (hL : ∀ q ∈ yL, q ∈ L0 ∨ s.heap.size ≤ q.base)
    (K : ∀ v T' h' SFo, yQ v h' SFo → Owk p l e R s m args below meth c Z a0 EL L0 own nm bs ml rt T' h' (SFo ++ SF) (k + rm.cells) (j + rm.slots) → Ogo p l e R s m args below meth c Z a0 EL L0 own nm bs ml rt T' (mkF m pc' ls (v.toList ++ st)) Q) : Ogo p l e R s m args below meth c Z a0 EL L0 own nm bs ml rt T (mkF m pc ls stk) Q := by
  subst hp hstk has
  obtain ⟨x1, x2, x3, x4, x5, vm0, k0, X, x6, x7, x8, x9, x10⟩ := id W
  obtain ⟨v, vm1, B, -, X', hS', hg', ⟨SFo, q1, q0, q2, q3, q4, q5⟩, come⟩ := superBackS X W.ex x6 (W.fc x7) w1 (own_smm hy w2 h7 w7) w2 w6 hy1
    (own_back (w := w) con x6 w4 w3 hf hlo x1.2.1 x9.1 (fun x hx => ⟨x3 x (hSF x hx), x10 x (hSF x hx)⟩) (W.kn x7).1 (W.kn x7).2) x2 F (g := mkF m pc ls (argsL.reverse ++ .ref a :: st)) rfl (by rw [x1.2.2.2.2.1]; exact hsz) w4 (lenOf hpd hln) rfl (by show 2 * 0 + _ ≤ _; omega) (W.hb hd) (fun vm1 _ => ⟨rfl, x2, hcl, hsl⟩)
  rw [x2] at hg'
  exact own_step (fun t q => come.trans q) (K v B.U B.U.heap SFo q1 (own_after (vm1 := vm1) W x7 x8 x6 x9 x10 hL hcl hsl X' hS' hg' q0 q2 q3 q4 q5))
theorem g_priv (W : Owk p l e R s m args below meth c Z a0 EL L0 own nm bs ml rt T h SF k j) {pc pc' idx w : Nat} {ls : Array Slot} {a : Addr} {C KC : String} {argsL st stk : List Value} {ps : List FieldType} (hd : decode bs pc = .ok (.invokevirtual idx, 3)) (hp : pc' = pc + 3) (w1 : (Jvm.Cond.methodLink own idx y).before a0 Z = true) (w5 : (Jvm.Cond.privateMethod y).before a0 Z = true) (w6 : (Jvm.Cond.selects C y y).before a0 Z = true) (w2 : (Jvm.Cond.instanceMethod y).before a0 Z = true) (w3 : (Jvm.Cond.initialized y.cls).before a0 Z = true) (w4 : (Jvm.Cond.code y yb yl yr).before a0 Z = true)
    (hy : y.cls ≠ "java/lang/invoke/MethodHandle" ∧ y.cls ≠ "java/lang/invoke/VarHandle") (E : Exa Z h a KC) (con : Ocon l Z EL y yb yl yr [] rm as' h ySF yL yQ) (hpd : parseMethodDescriptor y.desc = some ⟨ps, yr⟩) (hln : argsL.length = ps.length) (hstk : stk = argsL.reverse ++ .ref a :: st) (has : as' = (.ref a :: argsL).toArray) (hsz : ls.size = ml) (hf : rm.frames + 1 ≤ R.frames) (hW : (st.map fun v => v.category).sum ≤ w) (hlo : w + (yl + 11) + rm.locals ≤ R.locals) (hcl : k + rm.cells ≤ R.cells) (hsl : j + rm.slots ≤ R.slots) (hSF : ∀ x ∈ ySF, x ∈ SF) (hL : ∀ q ∈ yL, q ∈ L0 ∨ s.heap.size ≤ q.base)
    (K : ∀ v T' h' SFo, yQ v h' SFo → Owk p l e R s m args below meth c Z a0 EL L0 own nm bs ml rt T' h' (SFo ++ SF) (k + rm.cells) (j + rm.slots) → Ogo p l e R s m args below meth c Z a0 EL L0 own nm bs ml rt T' (mkF m pc' ls (v.toList ++ st)) Q) : Ogo p l e R s m args below meth c Z a0 EL L0 own nm bs ml rt T (mkF m pc ls stk) Q := by
  subst hp hstk has
  obtain ⟨x1, x2, x3, x4, x5, vm0, k0, X, x6, x7, x8, x9, x10⟩ := id W
  obtain ⟨cell, kk, hcell, -, -, hns, -⟩ := E
  obtain ⟨v, vm1, B, -, X', hS', hg', ⟨SFo, q1, q0, q2, q3, q4, q5⟩, come⟩ := X.privateBackS W.ex (W.fc x7) (mvT (s := s.setVm vm0) x6 w1) (mvT (s := s.setVm vm0) x6 w2) (mvT (s := s.setVm vm0) x6 (own_selp hy w6 w2 w5)) (Cond.privateMethod_at (args := args) (mvP (s := s.setVm vm0) x6 w5)) (mvT (s := s.setVm vm0) x6 w4) hy
    (own_back (w := w) con x6 w4 w3 hf hlo x1.2.1 x9.1 (fun x hx => ⟨x3 x (hSF x hx), x10 x (hSF x hx)⟩) (W.kn x7).1 (W.kn x7).2) (g := mkF m pc ls (argsL.reverse ++ .ref a :: st)) rfl (by rw [x1.2.2.2.2.1]; exact hsz) (Steps.refl _) (cell := cell) (by rw [x2]; exact hcell) (fun q z => by rw [z] at hns; cases hns) (lenOf hpd hln) rfl (by show 2 * 0 + _ ≤ _; omega) (W.hb hd) (fun vm1 _ => ⟨rfl, x2, hcl, hsl⟩)
  rw [x2] at hg'
  exact own_step (fun t q => come.trans q) (K v B.U B.U.heap SFo q1 (own_after (vm1 := vm1) W x7 x8 x6 x9 x10 hL hcl hsl X' hS' hg' q0 q2 q3 q4 q5))
theorem g_virtUp (W : Owk p l e R s m args below meth c Z a0 EL L0 own nm bs ml rt T h SF k j) {pc pc' idx w : Nat} {ls : Array Slot} {a : Addr} {C owner : String} {yd : MethodName} {argsL st stk : List Value} {ps : List FieldType} (hd : decode bs pc = .ok (.invokevirtual idx, 3)) (hp : pc' = pc + 3) (w1 : (Jvm.Cond.methodLink own idx yd).before a0 Z = true) (w7 : (Jvm.Cond.sameMethod yd.cls owner yd.name yd.desc).before a0 Z = true) (w5 : (Jvm.Cond.declares ⟨owner, yd.name, yd.desc⟩).before a0 Z = true) (w6 : (Jvm.Cond.selects C yd y).before a0 Z = true) (w2 : (Jvm.Cond.instanceMethod y).before a0 Z = true) (w3 : (Jvm.Cond.initialized y.cls).before a0 Z = true) (w4 : (Jvm.Cond.code y yb yl yr).before a0 Z = true)
    (hy : owner ≠ "java/lang/invoke/MethodHandle" ∧ owner ≠ "java/lang/invoke/VarHandle") (E : Exa Z h a C) (con : Ocon l Z EL y yb yl yr [] rm as' h ySF yL yQ) (hpd : parseMethodDescriptor yd.desc = some ⟨ps, yr⟩) (hln : argsL.length = ps.length) (hstk : stk = argsL.reverse ++ .ref a :: st) (has : as' = (.ref a :: argsL).toArray) (hsz : ls.size = ml) (hf : rm.frames + 1 ≤ R.frames) (hW : (st.map fun v => v.category).sum ≤ w) (hlo : w + (yl + 11) + rm.locals ≤ R.locals) (hcl : k + rm.cells ≤ R.cells) (hsl : j + rm.slots ≤ R.slots) (hSF : ∀ x ∈ ySF, x ∈ SF) (hL : ∀ q ∈ yL, q ∈ L0 ∨ s.heap.size ≤ q.base)
    (K : ∀ v T' h' SFo, yQ v h' SFo → Owk p l e R s m args below meth c Z a0 EL L0 own nm bs ml rt T' h' (SFo ++ SF) (k + rm.cells) (j + rm.slots) → Ogo p l e R s m args below meth c Z a0 EL L0 own nm bs ml rt T' (mkF m pc' ls (v.toList ++ st)) Q) : Ogo p l e R s m args below meth c Z a0 EL L0 own nm bs ml rt T (mkF m pc ls stk) Q := by
  subst hp hstk has
  obtain ⟨x1, x2, x3, x4, x5, vm0, k0, X, x6, x7, x8, x9, x10⟩ := id W
  obtain ⟨cq, kq, qa, -, qc⟩ := isOf (s := s.setVm vm0) x6 x2 E
  obtain ⟨v, vm1, B, -, X', hS', hg', ⟨SFo, q1, q0, q2, q3, q4, q5⟩, come⟩ := X.virtualBackUpS W.ex (W.fc x7) (mvT (s := s.setVm vm0) x6 w1) (mvT (s := s.setVm vm0) x6 w7) (mvT (s := s.setVm vm0) x6 w5) hy (mvT (s := s.setVm vm0) x6 w6) (mvT (s := s.setVm vm0) x6 w2)
    (own_back (w := w) con x6 w4 w3 hf hlo x1.2.1 x9.1 (fun x hx => ⟨x3 x (hSF x hx), x10 x (hSF x hx)⟩) (W.kn x7).1 (W.kn x7).2) qa qc (g := mkF m pc ls (argsL.reverse ++ .ref a :: st)) rfl (by rw [x1.2.2.2.2.1]; exact hsz) (Steps.refl _) (lenOf hpd hln) rfl (by show 2 * 0 + _ ≤ _; omega) (W.hb hd) (fun vm1 _ => ⟨rfl, x2, hcl, hsl⟩)
  rw [x2] at hg'
  exact own_step (fun t q => come.trans q) (K v B.U B.U.heap SFo q1 (own_after (vm1 := vm1) W x7 x8 x6 x9 x10 hL hcl hsl X' hS' hg' q0 q2 q3 q4 q5))
theorem g_newPE (W : Owk p l e R s m args below meth c Z a0 EL L0 own nm bs ml rt T h SF k j) {pc pc' : Nat} {ls : Array Slot} {st : List Value} {aty : ArrayType} {ty : FieldType} {dv : Value} {n : Int32} {cap : Nat} {ad : String} (hd : decode bs pc = .ok (.newarray aty, 2)) (hp : pc' = pc + 2) (hty : newarray.typeOf aty = ty) (hdv : defaultValue ty = dv) (had : "[" ++ ty.toString = ad) (w : (Cond.arrayClass ty).before a0 Z = true) (hn : ¬ n < 0) (hcap : n.toNatClampNeg ≤ cap) (hb : cap * 8 ≤ 536870912) (hc : k + 1 ≤ R.cells) (hl : j + cap ≤ R.slots)
    (K : ∀ T' h' cA, Ext h h' → Arv Z h' h.size cA ty n [] dv → Exa Z h' h.size ad → Owk p l e R s m args below meth c Z a0 EL L0 own nm bs ml rt T' h' (h.size :: SF) (k + 1) (j + cap) → Ogo p l e R s m args below meth c Z a0 EL L0 own nm bs ml rt T' (mkF m pc' ls (.ref h.size :: st)) Q) : Ogo p l e R s m args below meth c Z a0 EL L0 own nm bs ml rt T (mkF m pc ls (.int n :: st)) Q := by
  subst hp hty hdv
  obtain ⟨w1, w2, w3, w4, w5, vm0, k0, X, w6, w7, w8, w9, w10⟩ := id W
  obtain ⟨T', h', cA, X', e', E, A, EX, st'⟩ := newPE X W.ex w6 w w2 (g := mkF m pc ls (.int n :: st)) rfl (W.hb hd) rfl hn hcap hb hc hl had
  have V := Arv.new A hn
  refine own_step st' (K T' h' cA E V EX ⟨w1, e', fun x hx => ?_, hc, hl, vm0, k0, X', w6, w7, Nat.le_trans w8 E.1, w9.trans (CHr.ext E w9.1), fun x hx => ?_⟩)
  · rcases List.mem_cons.mp hx with rfl | q
    · exact V.lt
    · exact Nat.lt_of_lt_of_le (w3 x q) E.1
  · rcases List.mem_cons.mp hx with rfl | q
    · exact (Safe.new (Nat.le_refl _)).ext E w9.1
    · exact (w10 x q).ext E w9.1
theorem g_exc1 (W : Owk p l e R s m args below meth c Z a0 EL L0 own nm bs ml rt T h SF k j) {pc pc' ic n w : Nat} {ls : Array Slot} {st : List Value} {a : Addr} {rc : String} {links : List Link} {msg : Value} (hd : decode bs pc = .ok (.invokespecial ic, 3)) (hp : pc' = pc + 3) (hst : l.stackTraces = true) (hok : linksOk 1 links = true)
    (w1 : (Cond.methodLink own ic (ctor 1 (headName links))).before a0 Z = true) (w2 : (Cond.instanceMethod (ctor 1 (headName links))).before a0 Z = true) (wT : (chainTab 1 rc links).before a0 Z = true) (wi : (Cond.instantiable rc n).before a0 Z = true) (r : ∀ d ∈ twoRefs, d.before a0 Z = true) (O0 : Ext Z.heap s.heap) (O : Ext Z.heap h)
    (E : Exa Z h a rc) (N : Unt h a) (B : Fld Z h a "java/lang/Throwable" "backtrace" "Ljava/lang/Object;" .null) (B2 : Fld Z h a "java/lang/Throwable" "detailMessage" "Ljava/lang/String;" .null) (hmsg : msg.isRef = true) (hsz : ls.size = ml) (hS : a ∈ SF) (hL : ∀ q ∈ sixLocs Z a, q ∈ L0 ∨ s.heap.size ≤ q.base) (hf : 4 + links.length ≤ R.frames) (hW : (st.map fun v => v.category).sum ≤ w) (hlo : w + (56 + 14 * links.length) ≤ R.locals) (hc : k + 1 ≤ R.cells) (hsl : j + 2752 ≤ R.slots)
    (K : ∀ T' h', Kp Z h h' a → Exa Z h' a rc → Fld Z h' a "java/lang/Throwable" "detailMessage" "Ljava/lang/String;" msg → Owk p l e R s m args below meth c Z a0 EL L0 own nm bs ml rt T' h' SF (k + 1) (j + 2752) → Ogo p l e R s m args below meth c Z a0 EL L0 own nm bs ml rt T' (mkF m pc' ls st) Q) : Ogo p l e R s m args below meth c Z a0 EL L0 own nm bs ml rt T (mkF m pc ls (msg :: .ref a :: st)) Q := by
  subst hp
  obtain ⟨x1, x2, x3, x4, x5, vm0, k0, X, x6, x7, x8, x9, x10⟩ := id W
  obtain ⟨T', h', X', e', Kk, E', -, F', -, -, st'⟩ := excL1 X W.ex hst x6 (W.fc x7) hok w1 w2 wT wi r (ThS.ext O0 ThS.start) (ThS.ext O ThS.start) (W.kn x7).1 (W.kn x7).2 x2 E N B B2 hmsg (g := mkF m pc ls (msg :: .ref a :: st)) rfl (by rw [x1.2.2.2.2.1]; exact hsz) rfl (W.hb hd) hf (by show 2 * 0 + _ + _ ≤ _; omega) hc hsl
  have X2 := X'.sift (L' := L0) (fun x hx => by
    rcases List.mem_append.mp hx with q | q
    · exact Or.inl q
    · exact hL x q)
  have Kp' := keep_of_kp Kk
  have sf : ∀ x ∈ [a], Safe Z EL vm0 h x := fun x hx => by rw [List.mem_singleton.mp hx]; exact x10 a hS
  exact own_step st' (K T' h' Kk E' F' ⟨x1, e', fun x hx => Nat.lt_of_lt_of_le (x3 x hx) Kp'.1, hc, hsl, vm0, k0, X2, x6, x7, Nat.le_trans x8 Kp'.1, x9.trans (CHr.keep Kp' sf x9.1), fun x hx => (x10 x hx).keep Kp' sf x9.1⟩)
/-- System.arraycopy of bytes, into an array whose places L0 lists or that is new -/
theorem g_cpB (W : Owk p l e R s m args below meth c Z a0 EL L0 own nm bs ml rt T h SF k j) {pc pc' idx w n n' i d cc : Nat} {ls : Array Slot} {st : List Value} {a b : Addr} {kA kB : ClassId} {vs vd : List Value} {dv dd : Value} (hd : decode bs pc = .ok (.invokestatic idx, 3)) (hp : pc' = pc + 3)
    (w1 : (Cond.methodLink own idx Jvm.Stand.acN).before a0 Z = true) (w2 : (Cond.native Jvm.Stand.acN).before a0 Z = true) (w3 : (Cond.static Jvm.Stand.acN).before a0 Z = true) (w4 : (Cond.initialized "java/lang/System").before a0 Z = true)
    (A : Arv Z h a kA .byte (Int32.ofNat n) vs dv) (B : Arv Z h b kB .byte (Int32.ofNat n') vd dd) (hn : n < 2 ^ 30) (hn' : n' < 2 ^ 30) (hi : i + cc ≤ n) (hi' : d + cc ≤ n') (hl : vd.length = n') (hS : b ∈ SF) (hL : ∀ q, q < n' → (⟨b, q⟩ : Loc) ∈ L0 ∨ s.heap.size ≤ b) (hsz : ls.size = ml) (hf : 1 ≤ R.frames) (hW : (st.map fun v => v.category).sum ≤ w) (hlo : w + 18 ≤ R.locals)
    (K : ∀ T' h', Keep h h' [b] → Arv Z h' b kB .byte (Int32.ofNat n') (vd.take d ++ ((List.range cc).map fun x => vs.getD (i + x) dv) ++ vd.drop (d + cc)) dd → Owk p l e R s m args below meth c Z a0 EL L0 own nm bs ml rt T' h' SF k j → Ogo p l e R s m args below meth c Z a0 EL L0 own nm bs ml rt T' (mkF m pc' ls st) Q) :
    Ogo p l e R s m args below meth c Z a0 EL L0 own nm bs ml rt T (mkF m pc ls (.int (Int32.ofNat cc) :: .int (Int32.ofNat d) :: .ref b :: .int (Int32.ofNat i) :: .ref a :: st)) Q := by
  subst hp
  obtain ⟨u1, u2, u3, u4, u5, vm0, k0, X, u6, u7, u8, u9, u10⟩ := id W
  have c1 : (Int32.ofNat cc).toNatClampNeg = cc := own_clamp (by omega)
  have c2 : (Int32.ofNat i).toNatClampNeg = i := own_clamp (by omega)
  have c3 : (Int32.ofNat n).toNatClampNeg = n := own_clamp hn
  have c4 : (Int32.ofNat n').toNatClampNeg = n' := own_clamp hn'
  have c5 : (Int32.ofNat d).toNatClampNeg = d := own_clamp (by omega)
  have t1 : (Int32.ofNat cc).toInt = cc := Int32.toInt_ofNat_of_lt (by omega)
  have t2 : (Int32.ofNat i).toInt = i := Int32.toInt_ofNat_of_lt (by omega)
  have t5 : (Int32.ofNat d).toInt = d := Int32.toInt_ofNat_of_lt (by omega)
  obtain ⟨cs, As, -, Ss, -, Hs, Gs⟩ := A
  obtain ⟨cd, Ad, qd, Sd, Nd, Hd, Gd⟩ := B
  rw [c3] at Ss
  rw [c4] at Sd
  obtain ⟨os, ks, hks, sc, hsk⟩ := State.isArrayOf_alike (show Z.vm.Alike (s.setVm vm0).vm from u6.alike) As.2.1
  obtain ⟨od, kd, hkd, dc, hdk⟩ := State.isArrayOf_alike (show Z.vm.Alike (s.setVm vm0).vm from u6.alike) Ad.2.1
  have gv : ∀ x, x < cc → cs.slots.getD (i + x) .null = vs.getD (i + x) dv := fun x hx => by
    rw [Array.getD_eq_getD_getElem?, Hs (i + x) (by omega)]; rfl
  obtain ⟨vm1, hW1, X', st'⟩ := X.arraycopyK W.ex (W.fc u7) (mvT (s := s.setVm vm0) u6 w1) (mvT (s := s.setVm vm0) u6 w2) (mvT (s := s.setVm vm0) u6 w3) (mvT (s := s.setVm vm0) u6 w4) (srcPos := Int32.ofNat i) (destPos := Int32.ofNat d) (n := Int32.ofNat cc) (by rw [u2]; exact As.1) (by rw [u2]; exact Ad.1) os od As.2.2 Ad.2.2 hks hkd hsk hdk (by decide) (own_nn (by omega)) (own_nn (by omega)) (own_nn (by omega)) (by rw [t1, t2, Ss]; omega) (by rw [t1, t5, Sd]; omega)
    (fun vm1 _ x hx => by
      rw [c1] at hx; rw [c2, gv x hx]
      have q := Gs (i + x) (by omega)
      refine ⟨q, ?_⟩
      generalize vs.getD (i + x) dv = u at q
      cases u <;> first | trivial | cases q) (g := mkF m pc ls (.int (Int32.ofNat cc) :: .int (Int32.ofNat d) :: .ref b :: .int (Int32.ofNat i) :: .ref a :: st)) rfl (by rw [W.1.2.2.2.2.1]; exact hsz) rfl (W.hb hd) hf (by rw [show nativeFrameWords "java/lang/System" "arraycopy" 5 = 7 from by decide]; show 2 * 0 + _ + 18 ≤ _; omega)
  have hbl : b < h.size := Ad.lt
  have eh : ((T.setVm vm1).setCell b (copied cs cd (Int32.ofNat i) (Int32.ofNat d) (Int32.ofNat cc))).heap = h.setIfInBounds b (copied cs cd (Int32.ofNat i) (Int32.ofNat d) (Int32.ofNat cc)) := by rw [← u2]; rfl
  obtain ⟨f1, f2, f3, -⟩ := cd.storeRun_facts d (cs.stretch i cc)
  have ecp : copied cs cd (Int32.ofNat i) (Int32.ofNat d) (Int32.ofNat cc) = cd.storeRun d (cs.stretch i cc) := by unfold copied; rw [c1, c2, c5]
  rw [ecp] at eh X' st'
  have Kp' : Keep h (h.setIfInBounds b (cd.storeRun d (cs.stretch i cc))) [b] := by
    refine ⟨by simp, fun x cx q r => ?_, fun x cx q => ?_⟩
    · rw [Array.getElem?_setIfInBounds_ne (fun z => r (by simp [z]))]; exact q
    · by_cases z : b = x
      · subst z
        cases Ad.1.symm.trans q
        exact ⟨_, by rw [Array.getElem?_setIfInBounds_self_of_lt hbl], f1, f2, f3⟩
      · exact ⟨cx, by rw [Array.getElem?_setIfInBounds_ne z]; exact q, rfl, rfl, rfl⟩
  have get : ∀ x, x < n' → (cd.storeRun d (cs.stretch i cc)).slots[x]? = some ((vd.take d ++ ((List.range cc).map fun x => vs.getD (i + x) dv) ++ vd.drop (d + cc)).getD x dd) ∧ fits .byte ((vd.take d ++ ((List.range cc).map fun x => vs.getD (i + x) dv) ++ vd.drop (d + cc)).getD x dd) = true := fun x hx => by
    have hst : cs.stretch i cc = (List.range cc).map fun x => vs.getD (i + x) dv := List.map_congr_left fun x hx => gv x (List.mem_range.mp hx)
    rw [Cell.storeRun_get _ _ _ _ (by rw [Cell.stretch_length, Sd]; exact hi'), Cell.stretch_length, hst]
    have lt : (vd.take d).length = d := by rw [List.length_take]; omega
    have lm : ((List.range cc).map fun x => vs[i + x]?.getD dv).length = cc := by simp
    have key : (vd.take d ++ ((List.range cc).map fun x => vs.getD (i + x) dv) ++ vd.drop (d + cc)).getD x dd = if d ≤ x ∧ x < d + cc then vs.getD (i + (x - d)) dv else vd.getD x dd := by
      simp only [List.getD_eq_getElem?_getD]
      by_cases q1 : x < d
      · rw [if_neg (by omega), List.append_assoc, List.getElem?_append_left (by omega), List.getElem?_take_of_lt q1]
      · by_cases q2 : x < d + cc
        · rw [if_pos ⟨by omega, q2⟩, List.getElem?_append_left (by rw [List.length_append]; omega), List.getElem?_append_right (by omega), lt]
          simp [show x - d < cc by omega]
        · rw [if_neg (by omega), List.getElem?_append_right (by rw [List.length_append]; omega), List.length_append, lt, lm, List.getElem?_drop, show d + cc + (x - (d + cc)) = x by omega]
    rw [key]
    by_cases q : d ≤ x ∧ x < d + cc
    · rw [if_pos q, if_pos q]
      refine ⟨?_, Gs _ (by omega)⟩
      simp [show x - d < cc by omega, List.getD_eq_getElem?_getD]
    · rw [if_neg q, if_neg q]
      exact ⟨Hd x (by omega), Gd x (by omega)⟩
  have V : Arv Z (h.setIfInBounds b (cd.storeRun d (cs.stretch i cc))) b kB .byte (Int32.ofNat n') (vd.take d ++ ((List.range cc).map fun x => vs.getD (i + x) dv) ++ vd.drop (d + cc)) dd := by
    refine ⟨cd.storeRun d (cs.stretch i cc), ⟨by rw [Array.getElem?_setIfInBounds_self_of_lt hbl], ?_, by rw [f2]; exact Ad.2.2⟩, f1.trans qd, by rw [f3, Sd, c4], Nd, fun x hx => (get x (by rw [f3, Sd] at hx; exact hx)).1, fun x hx => (get x (by rw [f3, Sd] at hx; exact hx)).2⟩
    have := Ad.2.1; unfold State.isArrayOf at this ⊢; rw [f1, f2]; exact this
  have X2 := X'.sift (L' := L0) (fun x hx => by
    rcases List.mem_append.mp hx with q | q
    · exact Or.inl q
    · rw [c1, c5] at q
      simp only [copyLocs, List.mem_map, List.mem_range] at q
      obtain ⟨y, hy, rfl⟩ := q
      exact hL _ (by omega))
  have sf : ∀ x ∈ [b], Safe Z EL vm0 h x := fun x hx => by rw [List.mem_singleton.mp hx]; exact u10 b hS
  exact own_step st' (K _ _ Kp' V ⟨u1, eh, fun x hx => Nat.lt_of_lt_of_le (u3 x hx) Kp'.1, u4, u5, vm0, k0, X2, u6, u7, Nat.le_trans u8 Kp'.1, u9.trans (CHr.keep Kp' sf u9.1), fun x hx => (u10 x hx).keep Kp' sf u9.1⟩)
end OwnLayerK
/-! what Throwable's own code needs of the tables, out of words that name suppressedExceptions of the made class alone -/
section OwnLinks
open Jvm.Lib.Cold LibCode.Throwable
theorem own_links {args : Array Value} {s : State} {pl : Platform} {C : String} (howns : pl.frameOwnsMonitors = true) (hfin : pl.finalization = false) (hpl : pl.magicAccessors = ({} : Platform).magicAccessors)
    (h : ∀ c ∈ throwableAtoms, c ≠ .lays tN tN "suppressedExceptions" listD → c.before args s = true) (hs : (Jvm.Cond.lays C tN "suppressedExceptions" listD).before args s = true) (ht : (Jvm.Cond.lays C tN "stackTrace" steD).before args s = true) :
    ∃ (T : ThrowableC) (cellS : Cell), T.Links pl s ∧ s.vm.findClass tN = some T.cT ∧ s.methodNamed? tFill = some T.fill ∧ s.methodNamed? tFill0 = some T.fill0 ∧ s.fieldFound? tN "stackTrace" steD = some (T.cT, T.kT, T.i17, T.fStack) ∧ s.fieldFound? tN "UNASSIGNED_STACK" steD = some (T.cT, T.kT, T.i13, T.fUnassigned) ∧ s.heap[T.aS]? = some cellS ∧ cellS.vm.isStatics = true := by
  have a : ∀ c, c ∈ throwableAtoms → c ≠ .lays tN tN "suppressedExceptions" listD → c.holds args s none s [] = true := fun c hc hn => h c hc hn
  obtain ⟨⟨c, i0⟩, meth0, n0, m0, nat0, code0, lk0, sig0⟩ := Cond.native_spec (a (.native tFill0) (by simp [throwableAtoms]) nofun)
  have hc : s.vm.findClass tN = some c := findClass_of_methodNamed n0
  obtain ⟨k, hk, hname⟩ := Vm.findClass_spec hc
  obtain ⟨_, k1, _, _, hk1, _, _, -, _, hni⟩ := Cond.superclass_spec hc (a (.superclass tN "java/lang/Object") (by simp [throwableAtoms]) nofun)
  cases hk.symm.trans hk1
  obtain ⟨iF, mF, nF, gF, atF, stF, abF, -, -⟩ := Cond.ownMethod (x := tFill) hc hk (a (.instanceMethod tFill) (by simp [throwableAtoms]) nofun)
  obtain ⟨mF', cF, gF', hcF, bF, lF, rF, lkF, -, sigF⟩ := Cond.codeSync_spec nF (a (.codeSync tFill Fill.code 1 (some (.object tN))) (by simp [throwableAtoms]) nofun)
  cases gF.symm.trans gF'
  obtain ⟨i0', m0', n0', g0', at0, st0, ab0, nm0, ds0⟩ := Cond.ownMethod (x := tFill0) hc hk (a (.instanceMethod tFill0) (by simp [throwableAtoms]) nofun)
  have e3 : i0 = i0' := by have := Option.some.inj (n0.symm.trans n0'); simpa using this
  subst e3
  cases m0.symm.trans g0'
  obtain ⟨mO, methO, nO, gO, stO, abO⟩ := Cond.instanceMethod_spec (a (.instanceMethod oInit) (by simp [throwableAtoms]) nofun)
  obtain ⟨methO', cO, gO', hcO, bO, lO, -, lkO, -, sigO⟩ := Cond.code_spec nO (a (.code oInit ⟨#[0xb1]⟩ 1 none) (by simp [throwableAtoms]) nofun)
  cases gO.symm.trans gO'
  obtain ⟨kO, hkO, nameO⟩ := Vm.findClass_spec (findClass_of_methodNamed nO)
  obtain ⟨nmO, dsO⟩ := name_of_methodNamed nO gO
  obtain ⟨iZ, mZ, nZ, gZ, atZ, -, -, -, -⟩ := Cond.ownMethod (x := tInit0) hc hk (a (.instanceMethod tInit0) (by simp [throwableAtoms]) nofun)
  obtain ⟨mZ', cZ, gZ', hcZ, -, -, -, -, -, -⟩ := Cond.code_spec nZ (a (.code tInit0 Init0.code 1 none) (by simp [throwableAtoms]) nofun)
  cases gZ.symm.trans gZ'
  obtain ⟨ci1, n1, cf, l1, r1, hcf, p1⟩ := Cond.linkedMethod hc hk nO (a (.methodLink tN 1 oInit) (by simp [throwableAtoms]) nofun) pl hpl
  obtain ⟨ci27, n27, cf', l27, r27, hcf', p27⟩ := Cond.linkedMethod hc hk nF (a (.methodLink tN 27 tFill) (by simp [throwableAtoms]) nofun) pl hpl
  cases hcf.symm.trans hcf'
  obtain ⟨ci202, n202, cf', l202, r202, hcf', p202⟩ := Cond.linkedMethod hc hk n0 (a (.methodLink tN 202 tFill0) (by simp [throwableAtoms]) nofun) pl hpl
  cases hcf.symm.trans hcf'
  obtain ⟨ci7, i7, f7, k7, g7, a7, s7, fi7, -, -, -⟩ := Cond.ownField (t := .object tN) hc hk (by decide +kernel) (a (.fieldLink tN 7 tN "cause" "Ljava/lang/Throwable;") (by simp [throwableAtoms]) nofun) (a (.lays tN tN "cause" "Ljava/lang/Throwable;") (by simp [throwableAtoms]) (by decide)) pl hpl
  obtain ⟨ci17, i17, f17, k17, g17, a17, s17, fi17, nm17, -, ff17⟩ := Cond.ownField (C' := C) (t := .array (.object "java/lang/StackTraceElement")) hc hk (by decide +kernel) (a (.fieldLink tN 17 tN "stackTrace" steD) (by simp [throwableAtoms]) nofun) ht pl hpl
  obtain ⟨ci24, i24, f24, k24, g24, a24, s24, fi24, nm24, -, ff24⟩ := Cond.ownField (C' := C) (t := .object "java/util/List") hc hk (by decide +kernel) (a (.fieldLink tN 24 tN "suppressedExceptions" listD) (by simp [throwableAtoms]) nofun) hs pl hpl
  obtain ⟨ci13, i13, f13, aS, cellS, k13, g13, a13, s13, -, -, sta, hcellS, issS, -, -, ff13⟩ := Cond.ownStatic (t := .array (.object "java/lang/StackTraceElement")) hc hk (by decide +kernel) (a (.fieldLink tN 13 tN "UNASSIGNED_STACK" steD) (by simp [throwableAtoms]) nofun) (a (.laysStatic tN "UNASSIGNED_STACK" steD) (by simp [throwableAtoms]) nofun) pl hpl
  obtain ⟨ci20, i20, f20, _, _, k20, g20, a20, s20, -, -, -, -, -, -, -, ff20⟩ := Cond.ownStatic (t := .object "java/util/List") hc hk (by decide +kernel) (a (.fieldLink tN 20 tN "SUPPRESSED_SENTINEL" listD) (by simp [throwableAtoms]) nofun) (a (.laysStatic tN "SUPPRESSED_SENTINEL" listD) (by simp [throwableAtoms]) nofun) pl hpl
  obtain ⟨_, _, cM, kM, iM, fM, _, _, ffM, sM, fiM, _⟩ := Cond.lays_spec (a (.lays tN tN "detailMessage" "Ljava/lang/String;") (by simp [throwableAtoms]) (by decide))
  have apart : f17.slot ≠ f24.slot := by
    obtain ⟨c1, _, _, _, _, u1, x1, _, y1, _, _, _, _, d1, z1, _, w1, _⟩ := Cond.lays_spec ht
    obtain ⟨c2, _, _, _, _, u2, x2, _, y2, _, _, _, _, d2, z2, _, w2, _⟩ := Cond.lays_spec hs
    cases Option.some.inj (ff17.symm.trans y1)
    cases Option.some.inj (ff24.symm.trans y2)
    cases x1.symm.trans x2
    intro he
    rw [he] at z1
    cases z1.symm.trans z2
    have q : ("stackTrace" : String) = "suppressedExceptions" := by rw [← nm17, ← nm24, ← w1, ← w2]
    exact absurd q (by decide)
  have pF : mF.sig.parameters = [] := by
    have q : (parseMethodDescriptor tFill.desc).map (·.parameters) = some [] := by decide +kernel
    rw [sigF] at q; simpa using q
  have p0 : meth0.sig.parameters = [.int] := by
    have q : (parseMethodDescriptor tFill0.desc).map (·.parameters) = some [.int] := by decide +kernel
    rw [sig0] at q; simpa using q
  have pO : methO.sig.parameters.length = 0 := by
    have q : (parseMethodDescriptor oInit.desc).map (·.parameters) = some [] := by decide +kernel
    rw [sigO] at q
    have q : methO.sig.parameters = [] := by simpa using q
    rw [q]; rfl
  refine ⟨{ cT := c, kT := k, cO := c, aS := aS, fillIdx := iF, fill0Idx := i0, initSIdx := iZ, obj := mO, kObj := kO, methFill := mF, methFill0 := meth0, methInitS := mZ, methObj := methO, codeFill := cF, codeInitS := cZ, codeObj := cO, fBack := f7, fDepth := f7, fStack := f17, fCause := f7, fSupp := f24, fMsg := fM, fUnassigned := f13, fSentinel := f20, cfT := cf, ci1 := ci1, n1 := n1, ci27 := ci27, n27 := n27, ci202 := ci202, n202 := n202, ci7 := ci7, i7 := i7, ci13 := ci13, i13 := i13, ci17 := ci17, i17 := i17, ci20 := ci20, i20 := i20, ci24 := ci24, i24 := i24 }, cellS, ?_, hc, nF, n0, ff17, ff13, hcellS, issS⟩
  exact { owns := howns, noFinalization := hfin, cls := hk, name := hname, boot := Vm.findClass_boot hc hk, notInterface := hni, initialized := Cond.initialized_spec hc hk (a (.initialized tN) (by simp [throwableAtoms]) nofun), statics := sta, fillAt := atF, fillCode := hcF, fillBytes := bF, fillLocals := lF, fillLocks := lkF, fillStatic := stF, fillAbstract := abF, fillReturns := rF, fillParams := pF, fill0At := at0, fill0Name := nm0, fill0Desc := ds0, fill0Params := p0, fill0Static := st0, fill0Native := nat0, fill0Code := code0, fill0Locks := lk0, fill0Abstract := ab0, stackInstance := s17, stackNotFinal := fi17, unassignedStatic := s13, objClass := hkO, objClassName := nameO, objMethod := gO, objName := nmO, objStatic := stO, objAbstract := abO, objFound := (by rw [dsO]; exact lookupSpecial_of_named nO gO stO), objParams := pO, objCode := hcO, objBytes := bO, objLocks := lkO, causeInstance := s7, causeNotFinal := fi7, sentinelStatic := s20, suppInstance := s24, suppNotFinal := fi24, msgInstance := sM, msgNotFinal := fiM, stackApartSupp := apart, file := hcf, mlink1 := l1, mright1 := r1, pool1 := p1, mlink27 := l27, mright27 := r27, pool27 := p27, mlink202 := l202, mright202 := r202, pool202 := p202, link7 := k7, right7 := g7, at7 := a7, link13 := k13, right13 := g13, at13 := a13, link17 := k17, right17 := g17, at17 := a17, link20 := k20, right20 := g20, at20 := a20, link24 := k24, right24 := g24, at24 := a24 }
end OwnLinks
section OwnFill
open Jvm.Lib.Cold LibCode.Throwable Jvm.Free.Exc Jvm.Free.Str
theorem own_found {Z S0 : State} (hal : Z.vm.Alike S0.vm) {cls name desc : String} {c c' i i' : Nat} {k k' : Class} {f f' : Field} (hf : Z.fieldFound? cls name desc = some (c, k, i, f)) (hf' : S0.fieldFound? cls name desc = some (c', k', i', f')) : f = f' ∧ k.statics = k'.statics ∧ RoadKit.slotOf Z cls name desc = f'.slot := by
  obtain ⟨k2, q1, q2⟩ := State.fieldFound?_setVm (s := Z) hal hf
  have q3 : S0.fieldFound? cls name desc = some (c, k2, i, f) := q1
  cases q3.symm.trans hf'
  refine ⟨rfl, by rw [q2], by simp [RoadKit.slotOf, hf]⟩
/-- the payer of fillInStackTrace on an object of rc that 'new' made, its stackTrace as UNASSIGNED_STACK -/
theorem own_fillB {l : Launch} {R : Room} {p : Program} {e : Env} {below : List Frame} {Z S0 : State} {a0 args sargs : Array Value} {len W nI : Nat} {h : Heap} {a uu : Addr} {rc : String} (hexec : p.tables.exec = Jvm.exec) (howns : e.platform.frameOwnsMonitors = true) (hfin : e.platform.finalization = false) (hmag : e.platform.magicAccessors = ({} : Platform).magicAccessors) (htr : e.platform.stackTraces = true) (hadm : l.admits e) (hZ : Z.Warmed39 S0.vm) (O0 : Ext Z.heap S0.heap) (O : Ext Z.heap h) (hrc : rc ≠ tN)
    (wA : ∀ d ∈ excAtoms rc, d ≠ .lays tN tN "suppressedExceptions" listD → d.before a0 Z = true) (wi : (Jvm.Cond.instantiable rc nI).before a0 Z = true) (hTK : S0.vm.MethodsKnown) (hBelow : S0.vm.FramesKnown below)
    (E : Exa Z h a rc) (N : Unt h a) (FS : Fld Z h a tN "stackTrace" steD (.ref uu)) (FB : Fld Z h a tN "backtrace" obD .null) (SU : Sta Z Z.heap tN "UNASSIGNED_STACK" steD (.ref uu)) (hf : 2 < R.frames) (hlo : W + 42 ≤ R.locals) :
    ∃ (aS : Addr) (cell cellS : Cell) (cO : ClassId) (T : ThrowableT) (fb fd : Field) (u : RefV), u.v = .ref uu ∧ h[a]? = some cell ∧ h[aS]? = some cellS ∧ cell.vm = .none ∧ fb.slot = RoadKit.slotOf Z tN "backtrace" obD ∧ fd.slot = RoadKit.slotOf Z tN "depth" "I" ∧ T.fStack.slot = RoadKit.slotOf Z tN "stackTrace" steD ∧
      Back l R p e below S0 sargs tFill len W (fun A a' => a' = #[.ref a] ∧ A.cells + 1 ≤ R.cells ∧ A.slots + 2752 ≤ R.slots ∧ A.U.heap[a]? = some cell ∧ A.U.heap[aS]? = some cellS)
        (fun A _ v B => v = some (.ref a) ∧ ∃ (vm' : Vm) (lines : List TraceLine), lines.length ≤ 1024 ∧ S0.WarmedH vm' ∧ B.U = ((A.U.setVm vm').pushCell (traceHolder cO lines)).setCell a (filledOn T fb fd cell u A.U.heap.size lines.length.toInt32) ∧ B.locs = A.locs ++ [⟨a, fb.slot⟩, ⟨a, fd.slot⟩, ⟨a, T.fStack.slot⟩] ∧ B.cells = A.cells + 1 ∧ B.slots = A.slots + (traceHolder cO lines).slots.size) := by
  have hT0 : ThS Z S0.heap := ThS.ext O0 ThS.start
  have w : ∀ d ∈ excAtoms rc, d ≠ .lays tN tN "suppressedExceptions" listD → d.before args S0 = true := fun d hd hn => mvX hT0 hZ (List.all_eq_true.mp exc_ok d hd) (wA d hd hn)
  have nrc : ∀ n d, (Jvm.Cond.lays rc tN n d) ≠ .lays tN tN "suppressedExceptions" listD := fun n d q => by injection q with q1; exact hrc q1
  obtain ⟨T, cellS, L, hfound, nF, n0, ffS, ffU, hcS, iss⟩ := own_links (C := rc) (args := args) howns hfin hmag (fun c hc hn => w c (by simp [excAtoms, hc]) hn) (w _ (by simp [excAtoms]) (nrc _ _)) (w _ (by simp [excAtoms]) (nrc _ _))
  have hal := hZ.alike
  -- the object
  obtain ⟨cell, hcell, hvm, hmon⟩ := N
  obtain ⟨cell1, kX, hc1, hfc, hkX, hns, hsz⟩ := E
  cases hc1.symm.trans hcell
  obtain ⟨cI, kI, hi1, hi2, hord, -, -, -⟩ := Cond.instantiable_spec (mv (args := args) hZ wi)
  have hfc0 : S0.vm.findClass rc = some cell.cls := by rw [hal.findClass]; exact hfc
  cases hfc0.symm.trans hi1
  have hsz0 : cell.slots.size = kI.instanceTypes.size := by
    obtain ⟨k2, z1, z2⟩ := hal.2.2 _ _ hkX
    cases z1.symm.trans hi2
    have ek : kI.kind = kX.kind := by first | rw [z2] | rw [z2.1]
    have et : kI.instanceTypes = kX.instanceTypes := by first | rw [z2] | rw [z2.1]
    rw [et]; exact hsz (by rw [← ek]; exact hord)
  -- its fields
  obtain ⟨cs1, _, _, _, fS, hs1, hsf, -, -, -, -, hsv⟩ := FS
  cases hs1.symm.trans hcell
  obtain ⟨rfl, -, eS⟩ := own_found hal hsf ffS
  obtain ⟨cb1, _, _, _, fB0, hb1, hbf, -, -, -, -, hbv⟩ := FB
  cases hb1.symm.trans hcell
  obtain ⟨ci198, i198, fB, k198, g198, a198, sB, -, nB, -, ffB⟩ := Cond.ownField (C' := tN) (t := .object "java/lang/Object") hfound L.cls (by decide +kernel) (w (.fieldLink tN 198 tN "backtrace" obD) (by simp [excAtoms]) nofun) (w (.lays tN tN "backtrace" obD) (by simp [excAtoms]) (by decide)) e.platform hmag
  obtain ⟨rfl, -, eB⟩ := own_found hal hbf ffB
  obtain ⟨_, _, cD, kD, iD, fD, -, -, ffD, stD, -, -, -, -⟩ := Cond.lays_spec (w (.lays rc tN "depth" "I") (by simp [excAtoms]) (nrc _ _))
  cases Option.some.inj ((Cond.lays_declared (w (.lays rc tN "depth" "I") (by simp [excAtoms]) (nrc _ _)) ffD).symm.trans hfound)
  obtain ⟨hkD, atD⟩ := State.fieldFound?_spec ffD
  cases Option.some.inj (hkD.symm.trans L.cls)
  obtain ⟨nD, tD⟩ := State.fieldFound?_type ffD (t := .int) (by decide +kernel)
  have eD : RoadKit.slotOf Z tN "depth" "I" = fD.slot := by
    obtain ⟨_, _, cZ, kZ, iZ, fZ, -, -, ffZ, -⟩ := Cond.lays_spec (wA (.lays rc tN "depth" "I") (by simp [excAtoms]) (nrc _ _))
    exact (own_found hal ffZ ffD).2.2
  have hfb := Cond.soleField_find hfound L.cls (w (.soleField tN "backtrace") (by simp [excAtoms]) nofun) a198 nB sB
  have hfd := Cond.soleField_find hfound L.cls (w (.soleField tN "depth") (by simp [excAtoms]) nofun) atD nD stD
  obtain ⟨comp, cO, kO, -, -, hkO, hkindO, hO⟩ := Cond.arrayOver_spec (w (.arrayOver (.object "java/lang/Object")) (by simp [excAtoms]) nofun)
  have tyS := (Cond.laysAt hfc0 hi2 ffS (w (.lays rc tN "stackTrace" steD) (by simp [excAtoms]) (nrc _ _))).1
  have tyB := (Cond.laysAt hfc0 hi2 ffB (w (.lays rc tN "backtrace" obD) (by simp [excAtoms]) (nrc _ _))).1
  have tyD := (Cond.laysAt hfc0 hi2 ffD (w (.lays rc tN "depth" "I") (by simp [excAtoms]) (nrc _ _))).1
  have tk : ∀ {f : Field} {v : Value}, kI.instanceTypes[f.slot]? = some f.type → fits f.type v = true → Jvm.Takes S0 cell f v := fun {f v} h1 h2 => by
    obtain ⟨q1, q2⟩ := Takes.of_laid (s := S0) (v := v) hi2 hord h1 h2
    exact ⟨by rw [hsz0]; simpa using q1, by rw [hvm]; exact q2⟩
  have fS' := (State.fieldFound?_type ffS (t := .array (.object "java/lang/StackTraceElement")) (by decide +kernel)).2
  have fB' := (State.fieldFound?_type ffB (t := .object "java/lang/Object") (by decide +kernel)).2
  -- the statics
  obtain ⟨_, _, kU, fU, st, cellU, huf, -, -, husta, huc, hui, huv⟩ := SU
  obtain ⟨rfl, eks, -⟩ := own_found hal huf ffU
  have hst : st = T.aS := Option.some.inj ((husta.symm.trans eks).trans L.statics)
  subst hst
  cases (O0.2 _ _ huc).symm.trans hcS
  have hsel : selectMethod e.platform S0.vm cell.cls T.fill0 = .method T.fill0 := by
    obtain ⟨c2, r2, m2, q1, q2, q3, q4, -⟩ := Cond.selects_spec (w (.selects rc tFill0 tFill0) (by simp [excAtoms]) nofun)
    cases Option.some.inj (q1.symm.trans hfc0)
    cases Option.some.inj (q2.symm.trans (State.methodFound?_of_named n0 (by decide)))
    cases Option.some.inj (q3.symm.trans n0)
    rw [Launch.admits_selectMethod hadm]; exact q4
  refine ⟨T.aS, cell, cellS, cO, T.toThrowableT, fB0, fD, ⟨.ref uu, rfl⟩, rfl, hcell, O.2 _ _ huc, hvm, eB.symm, eD.symm, eS.symm, ?_⟩
  exact fillPays hexec htr T L nF (u0 := ⟨.ref uu, rfl⟩) (by intro q; cases q) (fun q z => by rw [hvm] at z; cases z) (by rw [hvm]; intro q; cases q) (by rw [hmon]) (by rw [hmon]) hsv hsel (fun q => by rw [q] at huc; have := O.2 _ _ huc; rw [hcell] at this; cases this; rw [hvm] at hui; cases hui) (fun q => by rw [q] at hui; cases hui) huv (tk tyS (by rw [fS']; rfl)) ⟨⟨ci198, i198, fB0⟩, ⟨k198, g198, a198, sB⟩, hbv⟩ hTK hBelow hfound hO hkO hkindO hfb hfd (fun x => tk tyB (by rw [fB']; rfl)) (fun x => tk tyD (by rw [tD]; rfl)) hf hlo
end OwnFill
section OwnLayerF
open Jvm.Free.Exc Jvm.Free.Str Jvm.Lib.Cold LibCode.Throwable
variable {p : Program} {l : Launch} {e : Env} {R : Room} {s : State} {m : MethodId} {args : Array Value} {below : List Frame} {meth : Method} {c : Code}
variable {Z : State} {a0 : Array Value} {EL : List (String × Nat)} {L0 : List Loc} {own nm : String} {bs : ByteArray} {ml : Nat} {rt : Option FieldType}
variable {T : State} {h : Heap} {SF : List Addr} {k j : Nat} {Q : Option Value → Heap → List Addr → Prop}
theorem g_fill (W : Owk p l e R s m args below meth c Z a0 EL L0 own nm bs ml rt T h SF k j) {pc pc' idx w nI : Nat} {ls : Array Slot} {st : List Value} {a uu : Addr} {rc : String} (hd : decode bs pc = .ok (.invokevirtual idx, 3)) (hp : pc' = pc + 3) (w1 : (Jvm.Cond.methodLink own idx tFill).before a0 Z = true) (w5 : (Jvm.Cond.declares tFill).before a0 Z = true) (w6 : (Jvm.Cond.selects rc tFill tFill).before a0 Z = true) (w2 : (Jvm.Cond.instanceMethod tFill).before a0 Z = true)
    (wA : ∀ d ∈ excAtoms rc, d ≠ .lays tN tN "suppressedExceptions" listD → d.before a0 Z = true) (wi : (Jvm.Cond.instantiable rc nI).before a0 Z = true) (hst : l.stackTraces = true) (hrc : rc ≠ tN) (O0 : Ext Z.heap s.heap) (O : Ext Z.heap h) (E : Exa Z h a rc) (N : Unt h a) (FS : Fld Z h a tN "stackTrace" steD (.ref uu)) (FB : Fld Z h a tN "backtrace" obD .null) (SU : Sta Z Z.heap tN "UNASSIGNED_STACK" steD (.ref uu))
    (hsz : ls.size = ml) (hS : a ∈ SF) (hL : ∀ q ∈ sixLocs Z a, q ∈ L0 ∨ s.heap.size ≤ q.base) (hf : 3 ≤ R.frames) (hW : (st.map fun v => v.category).sum ≤ w) (hlo : w + 42 ≤ R.locals) (hc : k + 1 ≤ R.cells) (hsl : j + 2752 ≤ R.slots)
    (K : ∀ T' h', Kp Z h h' a → (∀ {O' n d : String} {v : Value}, Fld Z h a O' n d v → RoadKit.slotOf Z O' n d ≠ RoadKit.slotOf Z tN "backtrace" obD → RoadKit.slotOf Z O' n d ≠ RoadKit.slotOf Z tN "depth" "I" → RoadKit.slotOf Z O' n d ≠ RoadKit.slotOf Z tN "stackTrace" steD → Fld Z h' a O' n d v) → Owk p l e R s m args below meth c Z a0 EL L0 own nm bs ml rt T' h' SF (k + 1) (j + 2752) → Ogo p l e R s m args below meth c Z a0 EL L0 own nm bs ml rt T' (mkF m pc' ls (.ref a :: st)) Q) : Ogo p l e R s m args below meth c Z a0 EL L0 own nm bs ml rt T (mkF m pc ls (.ref a :: st)) Q := by
  subst hp
  obtain ⟨x1, x2, x3, x4, x5, vm0, k0, X, x6, x7, x8, x9, x10⟩ := id W
  obtain ⟨cq, kq, qa, -, qc⟩ := isOf (s := s.setVm vm0) x6 x2 E
  have hpf := X.admits.platform
  obtain ⟨aS, cell, cellS, cO, TT, fb, fd, u, hu, hcell, hcS, hvm, sb, sd, ss, pay⟩ := own_fillB (R := R) (p := p) (below := below) (sargs := args) (len := 3) (W := w) (S0 := s.setVm vm0) (args := args) W.ex (by rw [hpf]) (by rw [hpf]) (by rw [hpf]) (by rw [hpf]; exact hst) X.admits x6 O0 O hrc wA wi (W.kn x7).1 (W.kn x7).2 E N FS FB SU (by omega) hlo
  obtain ⟨v, vm1, ⟨T', L', k', j'⟩, -, X', ⟨q1, vm', lines, ql, -, qU, q4, q5, q6⟩, come⟩ := X.virtualBack W.ex (W.fc x7) (mvT (s := s.setVm vm0) x6 w1) (mvT (s := s.setVm vm0) x6 w5) (own_nface rfl (mvT (args := #[]) (s := s.setVm vm0) x6 w6)) (mvT (s := s.setVm vm0) x6 w6) (mvT (s := s.setVm vm0) x6 w2) (by decide) pay qa qc (g := mkF m pc ls (.ref a :: st)) rfl (by rw [x1.2.2.2.2.1]; exact hsz) (Steps.refl _) (argsL := []) (rest := st) (fun sig hsg => by rw [show parseMethodDescriptor tFill.desc = some ⟨[], some (.object "java/lang/Throwable")⟩ from by decide +kernel] at hsg; cases hsg; rfl) rfl (by show 2 * 0 + _ ≤ _; omega) (W.hb hd) (fun vm1 _ => ⟨rfl, hc, hsl, by show T.heap[a]? = _; rw [x2]; exact hcell, by show T.heap[aS]? = _; rw [x2]; exact hcS⟩)
  dsimp only [Pt.U, Pt.locs, Pt.cells, Pt.slots] at X' qU q4 q5 q6 come
  subst q1 q4 q5 q6
  have lines_le : (traceHolder cO lines).slots.size ≤ 2752 := traceHolder_size_le cO ql
  have al : a < h.size := (Array.getElem?_eq_some_iff.mp hcell).1
  have hH : T'.heap = (h.push (traceHolder cO lines)).setIfInBounds a (filledOn TT fb fd cell u h.size lines.length.toInt32) := by rw [qU, ← x2]; rfl
  have Kk : Kp Z h T'.heap a := by
    rw [hH]
    refine ⟨by simp, fun y cy hy => ?_⟩
    have yl : y < h.size := (Array.getElem?_eq_some_iff.mp hy).1
    by_cases q : a = y
    · subst q
      cases hcell.symm.trans hy
      refine ⟨_, by rw [Array.getElem?_setIfInBounds_self_of_lt (by rw [Array.size_push]; exact Nat.lt_succ_of_lt al)], rfl, by simp [filledOn, Cell.setSlot], fun z => absurd rfl z, fun i hi => ?_⟩
      have n1 := hi ("backtrace", obD) (by simp [sixNames])
      have n2 := hi ("depth", "I") (by simp [sixNames])
      have n3 := hi ("stackTrace", steD) (by simp [sixNames])
      rw [← sb] at n1; rw [← sd] at n2; rw [← ss] at n3
      simp [filledOn, Cell.setSlot, Array.getElem?_setIfInBounds, n1, n2, n3]
    · refine ⟨cy, ?_, rfl, rfl, fun _ => rfl, fun _ _ => rfl⟩
      rw [Array.getElem?_setIfInBounds_ne q, Array.getElem?_push_lt yl, ← Array.getElem?_eq_getElem yl]; exact hy
  have Ff : ∀ {O' n d : String} {v : Value}, Fld Z h a O' n d v → RoadKit.slotOf Z O' n d ≠ RoadKit.slotOf Z tN "backtrace" obD → RoadKit.slotOf Z O' n d ≠ RoadKit.slotOf Z tN "depth" "I" → RoadKit.slotOf Z O' n d ≠ RoadKit.slotOf Z tN "stackTrace" steD → Fld Z T'.heap a O' n d v := fun {O' n d v} F n1 n2 n3 => by
    obtain ⟨c1, cf, kk, i, f, y1, y2, y3, y4, y5, y6, y7⟩ := F
    cases hcell.symm.trans y1
    have ef : RoadKit.slotOf Z O' n d = f.slot := by simp [RoadKit.slotOf, y2]
    rw [ef, ← sb] at n1; rw [ef, ← sd] at n2; rw [ef, ← ss] at n3
    refine ⟨filledOn TT fb fd cell u h.size lines.length.toInt32, cf, kk, i, f, ?_, y2, y3, y4, y5, y6, ?_⟩
    · rw [hH, Array.getElem?_setIfInBounds_self_of_lt (by rw [Array.size_push]; exact Nat.lt_succ_of_lt al)]
    · rw [← y7]; simp [filledOn, Cell.setSlot, Array.getElem?_setIfInBounds, Ne.symm n1, Ne.symm n2, Ne.symm n3]
  have X2 := (X'.mono (Nat.le_refl _) (Nat.add_le_add_left lines_le j)).sift (L' := L0) (fun x hx => by
    rcases List.mem_append.mp hx with q | q
    · exact Or.inl q
    · refine hL x ?_
      simp only [List.mem_cons, List.not_mem_nil, or_false] at q
      simp only [sixLocs, List.mem_map]
      rcases q with rfl | rfl | rfl
      · exact ⟨("backtrace", obD), by simp [sixNames], by rw [sb]⟩
      · exact ⟨("depth", "I"), by simp [sixNames], by rw [sd]⟩
      · exact ⟨("stackTrace", steD), by simp [sixNames], by rw [ss]⟩)
  have Kp' := keep_of_kp Kk
  have sf : ∀ x ∈ [a], Safe Z EL vm0 h x := fun x hx => by rw [List.mem_singleton.mp hx]; exact x10 a hS
  exact own_step (fun t q => come.trans q) (K T' T'.heap Kk Ff ⟨x1, rfl, fun x hx => Nat.lt_of_lt_of_le (x3 x hx) Kp'.1, hc, hsl, vm0, k0, X2, x6, x7, Nat.le_trans x8 Kp'.1, x9.trans (CHr.keep Kp' sf x9.1), fun x hx => (x10 x hx).keep Kp' sf x9.1⟩)
end OwnLayerF
/-! the plain law of isType -/
theorem own_add (i j : Nat) : Int32.ofNat i + Int32.ofNat j = Int32.ofNat (i + j) := (Int32.ofNat_add _ _).symm
theorem own_subn {i j : Nat} (hi : i < 2 ^ 30) (h : j ≤ i) : Int32.ofNat i - Int32.ofNat j = Int32.ofNat (i - j) := by
  have e1 : (Int32.ofNat i).toInt = i := Int32.toInt_ofNat_of_lt (by omega)
  have e2 : (Int32.ofNat j).toInt = j := Int32.toInt_ofNat_of_lt (by omega)
  have e3 : (Int32.ofNat (i - j)).toInt = ((i - j : Nat) : Int) := Int32.toInt_ofNat_of_lt (by omega)
  have q := c_isub (Int32.ofNat i) (Int32.ofNat j)
  have r := rng32 (Int32.ofNat i - Int32.ofNat j)
  apply Int32.toInt_inj.mp
  rw [e3]
  rw [e1, e2] at q
  omega
theorem own_dec (x : Int32) : x + Int32.ofInt (-1) = x - 1 := by rw [Int32.sub_eq_add_neg]; exact congrArg (x + ·) (by decide)
theorem own_zero {n : Nat} (hn : n < 2 ^ 30) (h : ¬ (0 : Int32) < Int32.ofNat n) : n = 0 := by
  rcases Nat.eq_zero_or_pos n with q | q
  · exact q
  · exact absurd (own_lt (i := 0) hn q) h
theorem own_eqn {a b : Nat} (ha : a < 2 ^ 30) (hb : b ≤ a) (h : ¬ Int32.ofNat b < Int32.ofNat a) : a = b := by
  rcases Nat.lt_or_ge b a with q | q
  · exact absurd (own_lt ha q) h
  · omega
theorem own_lc (a : Int64) : XT.cmpL ((0 : Int32).toInt64) (a - a) = 0 := by rw [Int64.sub_self]; decide
theorem own_small {c : Int32} (h : ¬ c < 0 ∧ ¬ (255 : Int32) < c) : ∃ n, n < 256 ∧ c = Int32.ofNat n := by
  have h1 := h.1; have h2 := h.2
  rw [Int32.lt_iff_toInt_lt] at h1 h2
  have e0 : (0 : Int32).toInt = 0 := rfl
  have e1 : (255 : Int32).toInt = 255 := rfl
  refine ⟨c.toInt.toNat, by omega, Int32.toInt_inj.mp ?_⟩
  rw [Int32.toInt_ofNat_of_lt (by omega)]
  omega
def own_fold (c : Int32) : Int32 := if ¬ c < 65 ∧ ¬ 90 < c then c + 32 else if ¬ c < 192 ∧ ¬ 222 < c ∧ ¬ c = 215 then c + 32 else c
def own_let (u : Int32) : Prop := ¬ u < 65 ∧ (¬ 90 < u ∨ (¬ u < 192 ∧ ¬ 222 < u ∧ ¬ u = 215))
instance (u : Int32) : Decidable (own_let u) := by unfold own_let; infer_instance
def own_up (c : Int32) : Int32 := if own_let (c &&& 223) then c &&& 223 else c
theorem own_tab : ∀ n, n < 256 → own_fold (own_up (Int32.ofNat n)) = own_fold (Int32.ofNat n) ∧ own_up (own_fold (Int32.ofNat n)) = own_up (Int32.ofNat n) ∧ StrChars.lo8 (Int32.ofNat n) &&& 223 = Int32.ofNat n &&& 223 ∧ StrChars.lo8 (Int32.ofNat n) &&& 255 = Int32.ofNat n ∧ (Int32.ofNat n &&& 223) &&& 223 = Int32.ofNat n &&& 223 := by decide +kernel
theorem own_tabc {c : Int32} (h : ¬ c < 0 ∧ ¬ (255 : Int32) < c) : own_fold (own_up c) = own_fold c ∧ own_up (own_fold c) = own_up c ∧ StrChars.lo8 c &&& 223 = c &&& 223 ∧ StrChars.lo8 c &&& 255 = c ∧ (c &&& 223) &&& 223 = c &&& 223 := by
  obtain ⟨n, hn, rfl⟩ := own_small h; exact own_tab n hn
theorem own_loinj {c d : Int32} (hc : ¬ c < 0 ∧ ¬ (255 : Int32) < c) (hd : ¬ d < 0 ∧ ¬ (255 : Int32) < d) (h : StrChars.lo8 c = StrChars.lo8 d) : c = d := by
  have q1 := (own_tabc hc).2.2.2.1; have q2 := (own_tabc hd).2.2.2.1
  rw [← q1, h, q2]
theorem own_ci {c d : Int32} (hc : ¬ c < 0 ∧ ¬ (255 : Int32) < c) (hd : ¬ d < 0 ∧ ¬ (255 : Int32) < d) : own_fold c = own_fold d ↔ (StrChars.lo8 c = StrChars.lo8 d ∨ (own_let (StrChars.lo8 c &&& 223) ∧ StrChars.lo8 c &&& 223 = StrChars.lo8 d &&& 223)) := by
  obtain ⟨c1, c2, c3, c4, c5⟩ := own_tabc hc
  obtain ⟨d1, d2, d3, d4, d5⟩ := own_tabc hd
  rw [c3, d3]
  constructor
  · intro h
    have q : own_up c = own_up d := by rw [← c2, ← d2, h]
    by_cases l1 : own_let (c &&& 223)
    · refine Or.inr ⟨l1, ?_⟩
      by_cases l2 : own_let (d &&& 223)
      · rw [own_up, own_up, if_pos l1, if_pos l2] at q; exact q
      · rw [own_up, own_up, if_pos l1, if_neg l2] at q; rw [← q, c5]
    · by_cases l2 : own_let (d &&& 223)
      · rw [own_up, own_up, if_neg l1, if_pos l2] at q
        exact absurd (by rw [q, d5]; exact l2) l1
      · rw [own_up, own_up, if_neg l1, if_neg l2] at q; rw [q]; exact Or.inl rfl
  · rintro (h | ⟨l1, h⟩)
    · rw [own_loinj hc hd h]
    · rw [← c1, ← d1, own_up, own_up, if_pos l1, if_pos (h ▸ l1), h]
/-- the first place where q holds, or the length -/
def own_first (q : Int32 → Bool) : List Int32 → Nat
  | [] => 0
  | c :: cs => if q c then 0 else own_first q cs + 1
theorem own_first_le (q : Int32 → Bool) : ∀ cs, own_first q cs ≤ cs.length
  | [] => Nat.le_refl _
  | c :: cs => by have := own_first_le q cs; simp only [own_first, List.length_cons]; split <;> omega
theorem own_first_is (q : Int32 → Bool) : ∀ (cs : List Int32) (f : Nat), f ≤ cs.length → (∀ i, i < f → q (cs.getD i 0) = false) → (f < cs.length → q (cs.getD f 0) = true) → f = own_first q cs
  | [], f, h1, _, _ => Nat.le_zero.mp h1
  | c :: cs, 0, _, _, h3 => by have := h3 (by simp); simp at this; simp [own_first, this]
  | c :: cs, f + 1, h1, h2, h3 => by
    have e := h2 0 (by omega)
    simp at e
    have r := own_first_is q cs f (by simp at h1; exact h1) (fun i hi => by have := h2 (i + 1) (by omega); simpa using this) (fun hf => by have := h3 (by simp; omega); simpa using this)
    simp [own_first, e, ← r]
theorem own_first_no (q : Int32 → Bool) : ∀ (cs : List Int32) (i : Nat), i < own_first q cs → q (cs.getD i 0) = false
  | [], i, h => absurd h (Nat.not_lt_zero _)
  | c :: cs, i, h => by
    by_cases e : q c = true
    · simp [own_first, e] at h
    · cases i with
      | zero => simpa using e
      | succ i => simp [own_first, e] at h; simpa using own_first_no q cs i h
abbrev own_p59 (c : Int32) : Bool := decide (c = 59)
abbrev own_p32 (c : Int32) : Bool := decide (32 < c)
def own_end : List Int32 → Nat
  | [] => 0
  | c :: cs => if own_end cs = 0 then (if 32 < c then 1 else 0) else own_end cs + 1
theorem own_end_sp : ∀ cs : List Int32, own_end cs ≤ cs.length ∧ (∀ i, own_end cs ≤ i → i < cs.length → ¬ (32 : Int32) < cs.getD i 0) ∧ (0 < own_end cs → (32 : Int32) < cs.getD (own_end cs - 1) 0)
  | [] => ⟨Nat.le_refl _, fun i _ h => absurd h (Nat.not_lt_zero _), fun h => absurd h (Nat.lt_irrefl _)⟩
  | c :: cs => by
    obtain ⟨h1, h2, h3⟩ := own_end_sp cs
    by_cases e : own_end cs = 0
    · by_cases e2 : (32 : Int32) < c
      · have q : own_end (c :: cs) = 1 := by rw [own_end, if_pos e, if_pos e2]
        rw [q]
        refine ⟨by simp, fun i hi hl => ?_, fun _ => by simpa using e2⟩
        obtain ⟨i, rfl⟩ : ∃ k, i = k + 1 := ⟨i - 1, by omega⟩
        have := h2 i (by omega) (by simpa using hl)
        simpa using this
      · have q : own_end (c :: cs) = 0 := by rw [own_end, if_pos e, if_neg e2]
        rw [q]
        refine ⟨by simp, fun i hi hl => ?_, fun h => absurd h (Nat.lt_irrefl _)⟩
        cases i with
        | zero => simpa using e2
        | succ i => have := h2 i (by omega) (by simpa using hl); simpa using this
    · have q : own_end (c :: cs) = own_end cs + 1 := by rw [own_end, if_neg e]
      rw [q]
      refine ⟨by simp; exact h1, fun i hi hl => ?_, fun _ => ?_⟩
      · obtain ⟨i, rfl⟩ : ∃ k, i = k + 1 := ⟨i - 1, by omega⟩
        have := h2 i (by omega) (by simpa using hl)
        simpa using this
      · have := h3 (by omega)
        obtain ⟨k, hk⟩ : ∃ k, own_end cs = k + 1 := ⟨own_end cs - 1, by omega⟩
        rw [hk] at this ⊢
        simpa using this
/-- where the trimmed part ends -/
def own_e (cs : List Int32) : Nat := if own_end cs = 0 then own_first own_p32 cs else own_end cs
theorem own_e_is (cs : List Int32) (e : Nat) (h0 : own_first own_p32 cs ≤ e) (h1 : e ≤ cs.length) (h2 : ∀ i, e ≤ i → i < cs.length → ¬ (32 : Int32) < cs.getD i 0) (h3 : own_first own_p32 cs < e → (32 : Int32) < cs.getD (e - 1) 0) : e = own_e cs := by
  obtain ⟨r1, r2, r3⟩ := own_end_sp cs
  unfold own_e
  by_cases q : own_end cs = 0
  · rw [if_pos q]
    have : own_first own_p32 cs = cs.length := (own_first_is own_p32 cs cs.length (Nat.le_refl _) (fun i hi => by simp [own_p32]; have := r2 i (by omega) hi; exact Int32.not_lt.mp this) (fun h => absurd h (Nat.lt_irrefl _))).symm
    omega
  · rw [if_neg q]
    have r3 := r3 (by omega)
    have a1 : own_first own_p32 cs ≤ own_end cs - 1 := by
      rcases Nat.lt_or_ge (own_end cs - 1) (own_first own_p32 cs) with z | z
      · have := own_first_no own_p32 cs _ z; simp [own_p32] at this; exact absurd r3 (Int32.not_lt.mpr this)
      · exact z
    rcases Nat.lt_trichotomy e (own_end cs) with z | z | z
    · exact absurd r3 (h2 _ (by omega) (by omega))
    · exact z
    · exact absurd (h3 (by omega)) (r2 _ (by omega) (by omega))
theorem own_e_ge (cs : List Int32) : own_first own_p32 cs ≤ own_e cs := by
  obtain ⟨r1, r2, r3⟩ := own_end_sp cs
  unfold own_e
  by_cases q : own_end cs = 0
  · rw [if_pos q]; exact Nat.le_refl _
  · rw [if_neg q]
    rcases Nat.lt_or_ge (own_end cs) (own_first own_p32 cs) with z | z
    · have := own_first_no own_p32 cs _ (show own_end cs - 1 < _ by omega); simp [own_p32] at this; exact absurd (r3 (by omega)) (Int32.not_lt.mpr this)
    · exact z
theorem own_e_le (cs : List Int32) : own_e cs ≤ cs.length := by
  unfold own_e
  split
  · exact own_first_le _ _
  · exact (own_end_sp cs).1
def own_tr (cs : List Int32) : List Int32 := (cs.drop (own_first own_p32 cs)).take (own_e cs - own_first own_p32 cs)
def OCI (cs ds : List Int32) : Prop := cs.length = ds.length ∧ ∀ i, i < cs.length → own_fold (cs.getD i 0) = own_fold (ds.getD i 0)
theorem own_join (xs ys : List Int32) (i2 : Nat) {c' : List Int32} (f : Nat) (hc : c' = xs.take f) (hy : i2 ≤ ys.length) : OCI (own_tr c') (ys.take i2) ↔ (own_e c' - own_first own_p32 c' = i2 ∧ ∀ j, j < own_e c' - own_first own_p32 c' → own_fold (xs.getD (own_first own_p32 c' + j) 0) = own_fold (ys.getD j 0)) := by
  have l1 : own_e c' ≤ c'.length := own_e_le c'
  have l2 : (own_tr c').length = own_e c' - own_first own_p32 c' := by simp [own_tr]; omega
  have l3 : (ys.take i2).length = i2 := by simp; omega
  have l4 : c'.length ≤ f := by rw [hc]; simp; omega
  have l5 : c'.length ≤ xs.length := by rw [hc]; simp; omega
  have g1 : ∀ j, j < own_e c' - own_first own_p32 c' → (own_tr c').getD j 0 = xs.getD (own_first own_p32 c' + j) 0 := fun j hj => by
    have e : ∀ k, k < f → c'[k]? = xs[k]? := fun k hk => by rw [hc, List.getElem?_take_of_lt hk]
    simp only [own_tr, List.getD_eq_getElem?_getD]
    rw [List.getElem?_take_of_lt hj, List.getElem?_drop, e _ (by omega)]
  unfold OCI
  rw [l2, l3]
  constructor
  · rintro ⟨q1, q2⟩
    refine ⟨q1, fun j hj => ?_⟩
    have := q2 j hj
    rw [g1 j hj] at this
    simp only [List.getD_eq_getElem?_getD] at this ⊢
    rw [List.getElem?_take_of_lt (by omega)] at this
    exact this
  · rintro ⟨q1, q2⟩
    refine ⟨q1, fun j hj => ?_⟩
    have := q2 j hj
    rw [g1 j hj]
    simp only [List.getD_eq_getElem?_getD] at this ⊢
    rw [List.getElem?_take_of_lt (by omega)]
    exact this
theorem own_cp (cs : List Int32) (st len : Nat) (h : st + len ≤ cs.length) (dv : Value) : ((List.range len).map fun x => (cs.map fun c => Value.int (StrChars.lo8 c)).getD (st + x) dv) = ((cs.drop st).take len).map fun c => Value.int (StrChars.lo8 c) := by
  apply List.ext_getElem?
  intro i
  by_cases q : i < len
  · have q1 : st + i < cs.length := by omega
    simp [List.getElem?_take_of_lt, q, q1, List.getD_eq_getElem?_getD]
  · simp [q, List.getElem?_take]
/-- x is a String of the chars cs, none above 255 -/
def OLat (Z : State) (h : Heap) (x : Addr) (cs : List Int32) : Prop := Exa Z h x "java/lang/String" ∧ (∀ c ∈ cs, ¬ c < 0 ∧ ¬ (255 : Int32) < c) ∧ ∃ (t : Addr) (kb : ClassId), Fld Z h x "java/lang/String" "value" "[B" (.ref t) ∧ Fld Z h x "java/lang/String" "coder" "B" (.int 0) ∧ Arv Z h t kb .byte (Int32.ofNat cs.length) (cs.map fun c => Value.int (StrChars.lo8 c)) (.int 0)
theorem OLat.ext {Z : State} {h h' : Heap} {x : Addr} {cs : List Int32} (S : OLat Z h x cs) (E : Ext h h') : OLat Z h' x cs := by
  obtain ⟨s1, s2, t, kb, s3, s4, s5⟩ := S
  exact ⟨s1.ext E, s2, t, kb, s3.ext E, s4.ext E, s5.ext E⟩
theorem OLat.of {Z : State} {h : Heap} {x : Addr} {cs : List Int32} (S : OStr Z h x cs) (hb : ∀ c ∈ cs, ¬ c < 0 ∧ ¬ (255 : Int32) < c) : OLat Z h x cs := by
  obtain ⟨s1, s2, t, kb, cd, N2, vs, s3, s4, s5, s6⟩ := S
  rcases s6 with ⟨rfl, rfl, rfl, -⟩ | ⟨-, -, -, c, hc, q⟩
  · exact ⟨s1, hb, t, kb, s3, s4, s5⟩
  · exact absurd q (hb c hc).2
theorem OLat.inj {Z : State} {h : Heap} {x : Addr} {cs ds : List Int32} (S : OLat Z h x cs) (S' : OLat Z h x ds) (hl : cs.length < 2 ^ 30) (hl' : ds.length < 2 ^ 30) : cs = ds := by
  obtain ⟨-, b1, t, kb, f1, -, a1⟩ := S
  obtain ⟨-, b2, t', kb', f2, -, a2⟩ := S'
  have e : (Value.ref t) = .ref t' := Decidable.byContradiction fun q => f1.ne f2 q rfl
  cases e
  obtain ⟨c1, A1, -, z1, -, H1, -⟩ := a1
  obtain ⟨c2, A2, -, z2, -, H2, -⟩ := a2
  cases A1.1.symm.trans A2.1
  rw [own_clamp hl] at z1
  rw [own_clamp hl'] at z2
  have hlen : cs.length = ds.length := z1.symm.trans z2
  apply List.ext_getElem hlen
  intro i h1 h2
  have q := (H1 i (by omega)).symm.trans (H2 i (by omega))
  rw [StrChars.Road.low_at _ cs i h1, StrChars.Road.low_at _ ds i h2] at q
  have q := Value.int.inj (Option.some.inj q)
  have r := own_loinj (b1 _ (own_mem h1)) (b2 _ (own_mem h2)) q
  have g1 : cs.getD i 0 = cs[i] := by simp [List.getD_eq_getElem?_getD, h1]
  have g2 : ds.getD i 0 = ds[i] := by simp [List.getD_eq_getElem?_getD, h2]
  rw [g1, g2] at r
  exact r
theorem own_btake {cs : List Int32} (n : Nat) (h : ∀ c ∈ cs, ¬ c < 0 ∧ ¬ (255 : Int32) < c) : ∀ c ∈ cs.take n, ¬ c < 0 ∧ ¬ (255 : Int32) < c := fun c hc => h c (List.mem_of_mem_take hc)
theorem own_bdrop {cs : List Int32} (n : Nat) (h : ∀ c ∈ cs, ¬ c < 0 ∧ ¬ (255 : Int32) < c) : ∀ c ∈ cs.drop n, ¬ c < 0 ∧ ¬ (255 : Int32) < c := fun c hc => h c (List.mem_of_mem_drop hc)
/-! StringBuilder, plainly -/
theorem own_shl0 (x : Int32) : x <<< ((0 : Int32) &&& 31) = x := by
  have q := c_ishl x 0 0 (by decide)
  have r := rng32 (x <<< ((0 : Int32) &&& 31))
  have r2 := rng32 x
  apply Int32.toInt_inj.mp
  omega
theorem own_le0 {a b : Nat} (hb : b < 2 ^ 30) (h : a ≤ b) : ¬ (0 : Int32) < Int32.ofNat a - Int32.ofNat b := by
  have e1 : (Int32.ofNat a).toInt = a := Int32.toInt_ofNat_of_lt (by omega)
  have e2 : (Int32.ofNat b).toInt = b := Int32.toInt_ofNat_of_lt (by omega)
  have q := c_isub (Int32.ofNat a) (Int32.ofNat b)
  have r := rng32 (Int32.ofNat a - Int32.ofNat b)
  rw [Int32.lt_iff_toInt_lt]
  rw [e1, e2] at q
  have e0 : (0 : Int32).toInt = 0 := rfl
  omega
theorem own_rng (l : List Value) (d : Value) {k : Nat} (h : l.length = k) : ((List.range k).map fun x => l.getD (0 + x) d) = l := by
  subst h
  apply List.ext_getElem?
  intro i
  by_cases q : i < l.length
  · simp [q, List.getD_eq_getElem?_getD]
  · simp [q]
/-- the byte[] of a StringBuilder that holds cs, cap places -/
def own_buf (cap : Nat) (cs : List Int32) : List Value := (cs.map fun c => Value.int (StrChars.lo8 c)) ++ List.replicate (cap - cs.length) (.int 0)
theorem own_buflen {cap : Nat} {cs : List Int32} (h : cs.length ≤ cap) : (own_buf cap cs).length = cap := by simp [own_buf]; omega
theorem own_grow {cs : List Int32} {c1 c2 : Nat} (h : cs.length ≤ c1) (h2 : c1 ≤ c2) (d : Value) : (List.replicate c2 (Value.int 0)).take 0 ++ ((List.range c1).map fun x => (own_buf c1 cs).getD (0 + x) d) ++ (List.replicate c2 (Value.int 0)).drop (0 + c1) = own_buf c2 cs := by
  rw [own_rng _ d (own_buflen h)]
  simp only [own_buf, List.take_zero, List.nil_append, Nat.zero_add, List.drop_replicate, List.append_assoc, List.replicate_append_replicate]
  congr 2; omega
theorem own_put {cs ds : List Int32} {cap : Nat} (h : cs.length + ds.length ≤ cap) (d : Value) : (own_buf cap cs).take cs.length ++ ((List.range ds.length).map fun x => (ds.map fun c => Value.int (StrChars.lo8 c)).getD (0 + x) d) ++ (own_buf cap cs).drop (cs.length + ds.length) = own_buf cap (cs ++ ds) := by
  rw [own_rng _ d (by simp)]
  have e1 : (own_buf cap cs).take cs.length = cs.map fun c => Value.int (StrChars.lo8 c) := by simp [own_buf]
  have e2 : (own_buf cap cs).drop (cs.length + ds.length) = List.replicate (cap - (cs ++ ds).length) (.int 0) := by
    simp only [own_buf, List.drop_append, List.length_map, List.drop_replicate, List.length_append]
    rw [List.drop_of_length_le (by simp)]
    simp; omega
  rw [e1, e2]
  simp [own_buf]
theorem own_bapp {cs ds : List Int32} (h : ∀ c ∈ cs, ¬ c < 0 ∧ ¬ (255 : Int32) < c) (h2 : ∀ c ∈ ds, ¬ c < 0 ∧ ¬ (255 : Int32) < c) : ∀ c ∈ cs ++ ds, ¬ c < 0 ∧ ¬ (255 : Int32) < c := fun c hc => (List.mem_append.mp hc).elim (h c) (h2 c)
/-- x is a StringBuilder that holds cs in a byte[] t of cap places -/
def OSb (Z : State) (h : Heap) (x t : Addr) (kb : ClassId) (cap : Nat) (cs : List Int32) : Prop := Exa Z h x "java/lang/StringBuilder" ∧ Fld Z h x "java/lang/AbstractStringBuilder" "value" "[B" (.ref t) ∧ Fld Z h x "java/lang/AbstractStringBuilder" "coder" "B" (.int 0) ∧ Fld Z h x "java/lang/AbstractStringBuilder" "count" "I" (.int (Int32.ofNat cs.length)) ∧ Arv Z h t kb .byte (Int32.ofNat cap) (own_buf cap cs) (.int 0) ∧ Exa Z h t "[B"
theorem OSb.ext {Z : State} {h h' : Heap} {x t : Addr} {kb : ClassId} {cap : Nat} {cs : List Int32} (S : OSb Z h x t kb cap cs) (E : Ext h h') : OSb Z h' x t kb cap cs := by
  obtain ⟨a, b, c, d, e, f⟩ := S; exact ⟨a.ext E, b.ext E, c.ext E, d.ext E, e.ext E, f.ext E⟩
theorem OLat.keepSB {Z : State} {a0 : Array Value} {h h' : Heap} {x y : Addr} {ds : List Int32} {C : String} {n : Nat} (S : OLat Z h y ds) (K : Keep h h' [x]) (E : Exa Z h x C) (hC : "java/lang/String" ≠ C) (wi : (Jvm.Cond.instantiable C n).before a0 Z = true) : OLat Z h' y ds := by
  obtain ⟨s1, s2, t, kb, s3, s4, s5⟩ := S
  have n1 : y ∉ [x] := fun q => (s1.ne E hC) (List.mem_singleton.mp q)
  have n2 : t ∉ [x] := fun q => (E.neArv s5 wi) (List.mem_singleton.mp q).symm
  exact ⟨s1.keep K, s2, t, kb, s3.keep K n1, s4.keep K n1, s5.keep K n2⟩
theorem own_bufull {cs : List Int32} {n : Nat} (h : cs.length = n) : own_buf n cs = cs.map fun c => Value.int (StrChars.lo8 c) := by subst h; simp [own_buf]
theorem own_nar8t : ∀ n, n < 256 → nar .char (Int32.ofNat n) = Int32.ofNat n := by decide +kernel
theorem own_nar8 {c : Int32} (h : ¬ c < 0 ∧ ¬ (255 : Int32) < c) : nar .char c = c := by
  obtain ⟨n, hn, rfl⟩ := own_small h
  exact own_nar8t n hn
def own_text (k : Nat) : String := match tables_1[k]? with | some (.stringLink _ _ t) => t | _ => ""
theorem own_str {Z : State} {a0 : Array Value} (hw : ∀ d ∈ tables_1, d.before a0 Z = true) : ∀ a ∈ Bundle.stringAtoms, a.before a0 Z = true :=
  own_cc (hw _ (List.mem_of_getElem? (i := 9) rfl)) (own_cc (hw _ (List.mem_of_getElem? (i := 8) rfl)) (own_cc (hw _ (List.mem_of_getElem? (i := 26) rfl)) (own_cc (hw _ (List.mem_of_getElem? (i := 36) rfl)) (own_cc (hw _ (List.mem_of_getElem? (i := 34) rfl)) (own_cc (hw _ (List.mem_of_getElem? (i := 107) rfl)) (own_cc (hw _ (List.mem_of_getElem? (i := 108) rfl)) (own_c0)))))))
theorem dS0_0 : decode jdk_52_method_21_code 0 = .ok (.iconst 0, 1) := by decide +kernel
theorem dS0_1 : decode jdk_52_method_21_code 1 = .ok (.istore 5, 2) := by decide +kernel
theorem dS0_3 : decode jdk_52_method_21_code 3 = .ok (.iload 5, 2) := by decide +kernel
theorem dS0_5 : decode jdk_52_method_21_code 5 = .ok (.iload 4, 2) := by decide +kernel
theorem dS0_7 : decode jdk_52_method_21_code 7 = .ok (.if_icmp .ge 37, 3) := by decide +kernel
theorem dS0_10 : decode jdk_52_method_21_code 10 = .ok (.aload_n 0, 1) := by decide +kernel
theorem dS0_11 : decode jdk_52_method_21_code 11 = .ok (.iload_n 1, 1) := by decide +kernel
theorem dS0_12 : decode jdk_52_method_21_code 12 = .ok (.caload, 1) := by decide +kernel
theorem dS0_13 : decode jdk_52_method_21_code 13 = .ok (.istore 6, 2) := by decide +kernel
theorem dS0_15 : decode jdk_52_method_21_code 15 = .ok (.iload 6, 2) := by decide +kernel
theorem dS0_17 : decode jdk_52_method_21_code 17 = .ok (.sipush 255, 3) := by decide +kernel
theorem dS0_20 : decode jdk_52_method_21_code 20 = .ok (.if_icmp .le 6, 3) := by decide +kernel
theorem dS0_23 : decode jdk_52_method_21_code 23 = .ok (.iload 5, 2) := by decide +kernel
theorem dS0_25 : decode jdk_52_method_21_code 25 = .ok (.ireturn, 1) := by decide +kernel
theorem dS0_26 : decode jdk_52_method_21_code 26 = .ok (.aload_n 2, 1) := by decide +kernel
theorem dS0_27 : decode jdk_52_method_21_code 27 = .ok (.iload_n 3, 1) := by decide +kernel
theorem dS0_28 : decode jdk_52_method_21_code 28 = .ok (.iload 6, 2) := by decide +kernel
theorem dS0_30 : decode jdk_52_method_21_code 30 = .ok (.i2b, 1) := by decide +kernel
theorem dS0_31 : decode jdk_52_method_21_code 31 = .ok (.bastore, 1) := by decide +kernel
theorem dS0_32 : decode jdk_52_method_21_code 32 = .ok (.iinc 1 1, 3) := by decide +kernel
theorem dS0_35 : decode jdk_52_method_21_code 35 = .ok (.iinc 3 1, 3) := by decide +kernel
theorem dS0_38 : decode jdk_52_method_21_code 38 = .ok (.iinc 5 1, 3) := by decide +kernel
theorem dS0_41 : decode jdk_52_method_21_code 41 = .ok (.goto (-38), 3) := by decide +kernel
theorem dS0_44 : decode jdk_52_method_21_code 44 = .ok (.iload 4, 2) := by decide +kernel
theorem dS0_46 : decode jdk_52_method_21_code 46 = .ok (.ireturn, 1) := by decide +kernel
theorem dS1_0 : decode jdk_52_method_16_code 0 = .ok (.iload_n 2, 1) := by decide +kernel
theorem dS1_1 : decode jdk_52_method_16_code 1 = .ok (.newarray .byte, 2) := by decide +kernel
theorem dS1_3 : decode jdk_52_method_16_code 3 = .ok (.astore_n 3, 1) := by decide +kernel
theorem dS1_4 : decode jdk_52_method_16_code 4 = .ok (.aload_n 0, 1) := by decide +kernel
theorem dS1_5 : decode jdk_52_method_16_code 5 = .ok (.iload_n 1, 1) := by decide +kernel
theorem dS1_6 : decode jdk_52_method_16_code 6 = .ok (.aload_n 3, 1) := by decide +kernel
theorem dS1_7 : decode jdk_52_method_16_code 7 = .ok (.iconst 0, 1) := by decide +kernel
theorem dS1_8 : decode jdk_52_method_16_code 8 = .ok (.iload_n 2, 1) := by decide +kernel
theorem dS1_9 : decode jdk_52_method_16_code 9 = .ok (.invokestatic 115, 3) := by decide +kernel
theorem dS1_12 : decode jdk_52_method_16_code 12 = .ok (.istore 4, 2) := by decide +kernel
theorem dS1_14 : decode jdk_52_method_16_code 14 = .ok (.iload 4, 2) := by decide +kernel
theorem dS1_16 : decode jdk_52_method_16_code 16 = .ok (.iload_n 2, 1) := by decide +kernel
theorem dS1_17 : decode jdk_52_method_16_code 17 = .ok (.if_icmp .eq 40, 3) := by decide +kernel
theorem dS1_20 : decode jdk_52_method_16_code 20 = .ok (.aload_n 0, 1) := by decide +kernel
theorem dS1_21 : decode jdk_52_method_16_code 21 = .ok (.iload_n 1, 1) := by decide +kernel
theorem dS1_22 : decode jdk_52_method_16_code 22 = .ok (.iload_n 2, 1) := by decide +kernel
theorem dS1_23 : decode jdk_52_method_16_code 23 = .ok (.invokestatic 119, 3) := by decide +kernel
theorem dS1_26 : decode jdk_52_method_16_code 26 = .ok (.astore 5, 2) := by decide +kernel
theorem dS1_28 : decode jdk_52_method_16_code 28 = .ok (.aload 5, 2) := by decide +kernel
theorem dS1_30 : decode jdk_52_method_16_code 30 = .ok (.iload 4, 2) := by decide +kernel
theorem dS1_32 : decode jdk_52_method_16_code 32 = .ok (.invokestatic 71, 3) := by decide +kernel
theorem dS1_35 : decode jdk_52_method_16_code 35 = .ok (.sipush 255, 3) := by decide +kernel
theorem dS1_38 : decode jdk_52_method_16_code 38 = .ok (.if_icmp .gt 16, 3) := by decide +kernel
theorem dS1_41 : decode jdk_52_method_16_code 41 = .ok (.aload 5, 2) := by decide +kernel
theorem dS1_43 : decode jdk_52_method_16_code 43 = .ok (.iconst 0, 1) := by decide +kernel
theorem dS1_44 : decode jdk_52_method_16_code 44 = .ok (.aload_n 3, 1) := by decide +kernel
theorem dS1_45 : decode jdk_52_method_16_code 45 = .ok (.iconst 0, 1) := by decide +kernel
theorem dS1_46 : decode jdk_52_method_16_code 46 = .ok (.iload_n 2, 1) := by decide +kernel
theorem dS1_47 : decode jdk_52_method_16_code 47 = .ok (.invokestatic 123, 3) := by decide +kernel
theorem dS1_50 : decode jdk_52_method_16_code 50 = .ok (.iload_n 2, 1) := by decide +kernel
theorem dS1_51 : decode jdk_52_method_16_code 51 = .ok (.if_icmp .eq 6, 3) := by decide +kernel
theorem dS1_54 : decode jdk_52_method_16_code 54 = .ok (.aload 5, 2) := by decide +kernel
theorem dS1_56 : decode jdk_52_method_16_code 56 = .ok (.areturn, 1) := by decide +kernel
theorem dS1_57 : decode jdk_52_method_16_code 57 = .ok (.aload_n 3, 1) := by decide +kernel
theorem dS1_58 : decode jdk_52_method_16_code 58 = .ok (.areturn, 1) := by decide +kernel
theorem dS2_0 : decode jdk_52_method_15_code 0 = .ok (.iload_n 1, 1) := by decide +kernel
theorem dS2_1 : decode jdk_52_method_15_code 1 = .ok (.aload_n 0, 1) := by decide +kernel
theorem dS2_2 : decode jdk_52_method_15_code 2 = .ok (.arraylength, 1) := by decide +kernel
theorem dS2_3 : decode jdk_52_method_15_code 3 = .ok (.isub, 1) := by decide +kernel
theorem dS2_4 : decode jdk_52_method_15_code 4 = .ok (.bipush 31, 2) := by decide +kernel
theorem dS2_6 : decode jdk_52_method_15_code 6 = .ok (.iushr, 1) := by decide +kernel
theorem dS2_7 : decode jdk_52_method_15_code 7 = .ok (.i2b, 1) := by decide +kernel
theorem dS2_8 : decode jdk_52_method_15_code 8 = .ok (.ireturn, 1) := by decide +kernel
theorem dS3_0 : decode jdk_42_method_149_code 0 = .ok (.aload_n 0, 1) := by decide +kernel
theorem dS3_1 : decode jdk_42_method_149_code 1 = .ok (.invokespecial 1, 3) := by decide +kernel
theorem dS3_4 : decode jdk_42_method_149_code 4 = .ok (.iload_n 3, 1) := by decide +kernel
theorem dS3_5 : decode jdk_42_method_149_code 5 = .ok (.ifCond .ne 22, 3) := by decide +kernel
theorem dS3_8 : decode jdk_42_method_149_code 8 = .ok (.aload_n 0, 1) := by decide +kernel
theorem dS3_9 : decode jdk_42_method_149_code 9 = .ok (.ldc 7, 2) := by decide +kernel
theorem dS3_11 : decode jdk_42_method_149_code 11 = .ok (.getfield 9, 3) := by decide +kernel
theorem dS3_14 : decode jdk_42_method_149_code 14 = .ok (.putfield 9, 3) := by decide +kernel
theorem dS3_17 : decode jdk_42_method_149_code 17 = .ok (.aload_n 0, 1) := by decide +kernel
theorem dS3_18 : decode jdk_42_method_149_code 18 = .ok (.ldc 7, 2) := by decide +kernel
theorem dS3_20 : decode jdk_42_method_149_code 20 = .ok (.getfield 15, 3) := by decide +kernel
theorem dS3_23 : decode jdk_42_method_149_code 23 = .ok (.putfield 15, 3) := by decide +kernel
theorem dS3_26 : decode jdk_42_method_149_code 26 = .ok (.return_, 1) := by decide +kernel
theorem dS3_27 : decode jdk_42_method_149_code 27 = .ok (.getstatic 38, 3) := by decide +kernel
theorem dS3_30 : decode jdk_42_method_149_code 30 = .ok (.ifCond .eq 28, 3) := by decide +kernel
theorem dS3_33 : decode jdk_42_method_149_code 33 = .ok (.aload_n 1, 1) := by decide +kernel
theorem dS3_34 : decode jdk_42_method_149_code 34 = .ok (.iload_n 2, 1) := by decide +kernel
theorem dS3_35 : decode jdk_42_method_149_code 35 = .ok (.iload_n 3, 1) := by decide +kernel
theorem dS3_36 : decode jdk_42_method_149_code 36 = .ok (.invokestatic 177, 3) := by decide +kernel
theorem dS3_39 : decode jdk_42_method_149_code 39 = .ok (.astore 5, 2) := by decide +kernel
theorem dS3_41 : decode jdk_42_method_149_code 41 = .ok (.aload_n 0, 1) := by decide +kernel
theorem dS3_42 : decode jdk_42_method_149_code 42 = .ok (.aload 5, 2) := by decide +kernel
theorem dS3_44 : decode jdk_42_method_149_code 44 = .ok (.iload_n 3, 1) := by decide +kernel
theorem dS3_45 : decode jdk_42_method_149_code 45 = .ok (.invokestatic 47, 3) := by decide +kernel
theorem dS3_48 : decode jdk_42_method_149_code 48 = .ok (.putfield 15, 3) := by decide +kernel
theorem dS3_51 : decode jdk_42_method_149_code 51 = .ok (.aload_n 0, 1) := by decide +kernel
theorem dS3_52 : decode jdk_42_method_149_code 52 = .ok (.aload 5, 2) := by decide +kernel
theorem dS3_54 : decode jdk_42_method_149_code 54 = .ok (.putfield 9, 3) := by decide +kernel
theorem dS3_57 : decode jdk_42_method_149_code 57 = .ok (.return_, 1) := by decide +kernel
theorem dS3_58 : decode jdk_42_method_149_code 58 = .ok (.aload_n 0, 1) := by decide +kernel
theorem dS3_59 : decode jdk_42_method_149_code 59 = .ok (.iconst 1, 1) := by decide +kernel
theorem dS3_60 : decode jdk_42_method_149_code 60 = .ok (.putfield 15, 3) := by decide +kernel
theorem dS3_63 : decode jdk_42_method_149_code 63 = .ok (.aload_n 0, 1) := by decide +kernel
theorem dS3_64 : decode jdk_42_method_149_code 64 = .ok (.aload_n 1, 1) := by decide +kernel
theorem dS3_65 : decode jdk_42_method_149_code 65 = .ok (.iload_n 2, 1) := by decide +kernel
theorem dS3_66 : decode jdk_42_method_149_code 66 = .ok (.iload_n 3, 1) := by decide +kernel
theorem dS3_67 : decode jdk_42_method_149_code 67 = .ok (.invokestatic 180, 3) := by decide +kernel
theorem dS3_70 : decode jdk_42_method_149_code 70 = .ok (.putfield 9, 3) := by decide +kernel
theorem dS3_73 : decode jdk_42_method_149_code 73 = .ok (.return_, 1) := by decide +kernel
theorem dS4_0 : decode jdk_42_method_3_code 0 = .ok (.aload_n 0, 1) := by decide +kernel
theorem dS4_1 : decode jdk_42_method_3_code 1 = .ok (.aload_n 1, 1) := by decide +kernel
theorem dS4_2 : decode jdk_42_method_3_code 2 = .ok (.iconst 0, 1) := by decide +kernel
theorem dS4_3 : decode jdk_42_method_3_code 3 = .ok (.aload_n 1, 1) := by decide +kernel
theorem dS4_4 : decode jdk_42_method_3_code 4 = .ok (.arraylength, 1) := by decide +kernel
theorem dS4_5 : decode jdk_42_method_3_code 5 = .ok (.aconst_null, 1) := by decide +kernel
theorem dS4_6 : decode jdk_42_method_3_code 6 = .ok (.invokespecial 27, 3) := by decide +kernel
theorem dS4_9 : decode jdk_42_method_3_code 9 = .ok (.return_, 1) := by decide +kernel
theorem pd___CI_BII_I : parseMethodDescriptor "([CI[BII)I" = some ⟨[(.array .char), .int, (.array .byte), .int, .int], (some .int)⟩ := by decide +kernel
theorem pd___CII__B : parseMethodDescriptor "([CII)[B" = some ⟨[(.array .char), .int, .int], (some (.array .byte))⟩ := by decide +kernel
theorem pd___BI_B : parseMethodDescriptor "([BI)B" = some ⟨[(.array .byte), .int], (some .byte)⟩ := by decide +kernel
theorem pd___CIILjava_lang_Void__V : parseMethodDescriptor "([CIILjava/lang/Void;)V" = some ⟨[(.array .char), .int, .int, (.object "java/lang/Void")], none⟩ := by decide +kernel
theorem pd___C_V : parseMethodDescriptor "([C)V" = some ⟨[(.array .char)], none⟩ := by decide +kernel
theorem pn_java_lang_StringUTF16 : plainName "java/lang/StringUTF16" = true := by first | (simp [plainName, overriddenIn]; done) | decide +kernel
set_option maxRecDepth 65536 in
set_option maxHeartbeats 4000000 in
theorem con_cmp5 (l : Launch) (Z : State) (a0 : Array Value) (hw : ∀ d ∈ tables_1, d.before a0 Z = true) (hEL : EW Z a0 consts_1) (b d : Addr) (kC kB : ClassId) (cs : List Int32) (dv : Value) (n : Nat) (h0 : Heap) (hn : cs.length = n) (hcap : n ≤ 34) (K : Arv Z h0 b kC .char (Int32.ofNat n) (cs.map Value.int) dv) (D : Arv Z h0 d kB .byte (Int32.ofNat n) (List.replicate n (.int 0)) (.int 0)) (hne : b ≠ d) :
    Ocon l Z consts_1 (⟨"java/lang/StringUTF16", "compress", "([CI[BII)I"⟩ : MethodName) jdk_52_method_21_code 7 (some .int) [] ({ frames := 0, cells := 0, slots := 0, locals := 0 } : Room) #[(.ref b), (.int (0 : Int32)), (.ref d), (.int (0 : Int32)), (.int (Int32.ofNat n))] h0 [d] ((List.range 34).map fun i => (⟨d, i⟩ : Loc)) (fun v h _ => ∃ r, r ≤ n ∧ v = some (.int (Int32.ofNat r)) ∧ Keep h0 h [d] ∧ (∀ i, i < r → ¬ (255 : Int32) < cs.getD i 0) ∧ (r < n → (255 : Int32) < cs.getD r 0) ∧ Arv Z h d kB .byte (Int32.ofNat n) (own_cmp cs n r) (.int 0)) := by
  refine own_con (a0 := a0) hEL (plainFor_of_name pn_java_lang_StringUTF16) ?_
  intro p e s m below meth c T hs W0
  have loop : ∀ (kk i : Nat) (T : State) (h : Heap) (s6 : Slot), i + kk = n → (∀ i', i' < i → ¬ (255 : Int32) < cs.getD i' 0) → One s6 → Keep h0 h [d] → Arv Z h b kC .char (Int32.ofNat n) (cs.map Value.int) dv → Arv Z h d kB .byte (Int32.ofNat n) (own_cmp cs n i) (.int 0) → Owk p l e ({ frames := 0, cells := 0, slots := 0, locals := 0 } : Room) s m #[(.ref b), (.int (0 : Int32)), (.ref d), (.int (0 : Int32)), (.int (Int32.ofNat n))] below meth c Z a0 consts_1 ((List.range 34).map fun i => (⟨d, i⟩ : Loc)) "java/lang/StringUTF16" "compress" jdk_52_method_21_code 7 (some .int) T h [d] 0 0 → Ogo p l e ({ frames := 0, cells := 0, slots := 0, locals := 0 } : Room) s m #[(.ref b), (.int (0 : Int32)), (.ref d), (.int (0 : Int32)), (.int (Int32.ofNat n))] below meth c Z a0 consts_1 ((List.range 34).map fun i => (⟨d, i⟩ : Loc)) "java/lang/StringUTF16" "compress" jdk_52_method_21_code 7 (some .int) T (mkF m 3 #[.val (.ref b), .val (.int (Int32.ofNat i)), .val (.ref d), .val (.int (Int32.ofNat i)), .val (.int (Int32.ofNat n)), .val (.int (Int32.ofNat i)), s6] []) (fun v h _ => ∃ r, r ≤ n ∧ v = some (.int (Int32.ofNat r)) ∧ Keep h0 h [d] ∧ (∀ i, i < r → ¬ (255 : Int32) < cs.getD i 0) ∧ (r < n → (255 : Int32) < cs.getD r 0) ∧ Arv Z h d kB .byte (Int32.ofNat n) (own_cmp cs n r) (.int 0)) := by
    intro kk
    induction kk with
    | zero =>
      intro i T h s6 hi hb h6 hK hV hD W0
      obtain rfl : n = i := by omega
      refine g_iload W0 dS0_3 (pc' := 5) rfl rfl ?_
      refine g_iload W0 dS0_5 (pc' := 7) rfl rfl ?_
      refine g_icY W0 dS0_7 (pc' := 44) (flt Int32.lt_irrefl).2.1 (by decide) (by decide) ?_
      refine g_iload W0 dS0_44 (pc' := 46) rfl rfl ?_
      exact g_iret W0 dS0_46 rfl (Or.inl rfl) rfl ⟨n, Nat.le_refl _, rfl, hK, hb, fun q => absurd q (Nat.lt_irrefl _), hD⟩
    | succ kk ih =>
      intro i T h s6 hi hb h6 hK hV hD W0
      have hin : i < n := by omega
      have hlt := own_lt (by omega) hin
      have hcl : (Int32.ofNat n).toNatClampNeg = n := own_clamp (by omega)
      refine g_iload W0 dS0_3 (pc' := 5) rfl rfl ?_
      refine g_iload W0 dS0_5 (pc' := 7) rfl rfl ?_
      refine g_icN W0 dS0_7 (pc' := 10) (tlt hlt).2.1 rfl ?_
      refine g_aloadN W0 dS0_10 (pc' := 11) rfl rfl rfl ?_
      refine g_iloadN W0 dS0_11 (pc' := 12) rfl rfl ?_
      refine g_caload W0 dS0_12 (pc' := 13) rfl hV (i := i) rfl (by rw [hcl]; exact hin) (v := (.int (cs.getD i 0))) (own_getI cs dv (by omega)) ?_
      refine g_istore W0 dS0_13 (pc' := 15) (ls' := #[.val (.ref b), .val (.int (Int32.ofNat i)), .val (.ref d), .val (.int (Int32.ofNat i)), .val (.int (Int32.ofNat n)), .val (.int (Int32.ofNat i)), .val (.int (cs.getD i 0))]) rfl (XS.store1 (o := s6) rfl h6 rfl) ?_
      refine g_iload W0 dS0_15 (pc' := 17) rfl rfl ?_
      refine g_sipush W0 dS0_17 (pc' := 20) rfl (v := 255) rfl ?_
      by_cases c1 : (255 : Int32) < (cs.getD i 0)
      · skip
        refine g_icN W0 dS0_20 (pc' := 23) (tlt c1).2.2.2 rfl ?_
        refine g_iload W0 dS0_23 (pc' := 25) rfl rfl ?_
        exact g_iret W0 dS0_25 rfl (Or.inl rfl) rfl ⟨i, Nat.le_of_lt hin, rfl, hK, hb, fun _ => by assumption, hD⟩
      · skip
        refine g_icY W0 dS0_20 (pc' := 26) (flt c1).2.2.2 (by decide) (by decide) ?_
        refine g_aloadN W0 dS0_26 (pc' := 27) rfl rfl rfl ?_
        refine g_iloadN W0 dS0_27 (pc' := 28) rfl rfl ?_
        refine g_iload W0 dS0_28 (pc' := 30) rfl rfl ?_
        refine g_i2b W0 dS0_30 (pc' := 31) rfl ?_
        refine g_bastore W0 dS0_31 (pc' := 32) rfl hD (i := i) rfl (by rw [hcl]; exact hin) (by rw [own_cmplen cs hn (by omega)]; exact hin) (own_lo8 _) (own_cmpset cs hn hin) (by simp) (Or.inl (by simp; omega)) ?_
        intro T2 h3 w4 A5 W6
        refine g_iinc W6 dS0_32 (pc' := 35) (v := Int32.ofNat (i + 1)) (ls' := #[.val (.ref b), .val (.int (Int32.ofNat (i + 1))), .val (.ref d), .val (.int (Int32.ofNat i)), .val (.int (Int32.ofNat n)), .val (.int (Int32.ofNat i)), .val (.int (cs.getD i 0))]) rfl rfl (own_succ i) rfl ?_
        refine g_iinc W6 dS0_35 (pc' := 38) (v := Int32.ofNat (i + 1)) (ls' := #[.val (.ref b), .val (.int (Int32.ofNat (i + 1))), .val (.ref d), .val (.int (Int32.ofNat (i + 1))), .val (.int (Int32.ofNat n)), .val (.int (Int32.ofNat i)), .val (.int (cs.getD i 0))]) rfl rfl (own_succ i) rfl ?_
        refine g_iinc W6 dS0_38 (pc' := 41) (v := Int32.ofNat (i + 1)) (ls' := #[.val (.ref b), .val (.int (Int32.ofNat (i + 1))), .val (.ref d), .val (.int (Int32.ofNat (i + 1))), .val (.int (Int32.ofNat n)), .val (.int (Int32.ofNat (i + 1))), .val (.int (cs.getD i 0))]) rfl rfl (own_succ i) rfl ?_
        refine g_goto W6 dS0_41 (pc' := 3) (by decide) (by decide) ?_
        refine ih (i + 1) T2 h3 _ (by omega) (fun i' hi' => ?_) (One.val rfl) (hK.wr w4 (Or.inl (by simp))) (hV.other w4 hne) A5 W6
        by_cases q : i' = i
        · subst q; exact c1
        · exact hb i' (by omega)
  have ef : entryFrame m #[(.ref b), (.int (0 : Int32)), (.ref d), (.int (0 : Int32)), (.int (Int32.ofNat n))] 7 = mkF m 0 #[.val (.ref b), .val (.int (0 : Int32)), .val (.ref d), .val (.int (0 : Int32)), .val (.int (Int32.ofNat n)), .unset, .unset] [] := own_entry m [(.ref b), (.int (0 : Int32)), (.ref d), (.int (0 : Int32)), (.int (Int32.ofNat n))] 7 (by simp [Value.category]) rfl
  rw [ef]
  refine g_iconst W0 dS0_0 (pc' := 1) rfl (v := 0) rfl ?_
  refine g_istore W0 dS0_1 (pc' := 3) rfl (ls' := #[.val (.ref b), .val (.int (0 : Int32)), .val (.ref d), .val (.int (0 : Int32)), .val (.int (Int32.ofNat n)), .val (.int (0 : Int32)), .unset]) rfl ?_
  exact loop n 0 T h0 .unset (by omega) (fun i' hi' => absurd hi' (Nat.not_lt_zero _)) One.u (Keep.refl _ _) K (by rw [own_cmp0]; exact D) W0
set_option maxRecDepth 65536 in
set_option maxHeartbeats 4000000 in
theorem con_cmp3 (l : Launch) (Z : State) (a0 : Array Value) (hw : ∀ d ∈ tables_1, d.before a0 Z = true) (hEL : EW Z a0 consts_1) (b : Addr) (kC : ClassId) (cs : List Int32) (dv : Value) (n : Nat) (h0 : Heap) (O : Ext Z.heap h0)  (hn : cs.length = n) (hcap : n ≤ 34) (K : Arv Z h0 b kC .char (Int32.ofNat n) (cs.map Value.int) dv) (hb : ∀ c ∈ cs, ¬ c < 0 ∧ ¬ (65535 : Int32) < c) (hp : ∀ c ∈ cs, ¬ (255 : Int32) < c) :
    Ocon l Z consts_1 (⟨"java/lang/StringUTF16", "compress", "([CII)[B"⟩ : MethodName) jdk_52_method_16_code 6 (some (.array .byte)) [] ({ frames := 1, cells := 1, slots := 34, locals := 18 } : Room) #[(.ref b), (.int (0 : Int32)), (.int (Int32.ofNat n))] h0 [] [] (fun v h _ => ∃ (t : Addr) (kb : ClassId) (cd N2 : Int32) (vs : List Value), v = some (.ref t) ∧ Ext h0 h ∧ h0.size ≤ t ∧ Arv Z h t kb .byte N2 vs (.int 0) ∧ StrChars.Road.CodA cs cd N2 vs) := by
  refine own_con (a0 := a0) hEL (plainFor_of_name pn_java_lang_StringUTF16) ?_
  intro p e s m below meth c T hs W0
  have ef : entryFrame m #[(.ref b), (.int (0 : Int32)), (.int (Int32.ofNat n))] 6 = mkF m 0 #[.val (.ref b), .val (.int (0 : Int32)), .val (.int (Int32.ofNat n)), .unset, .unset, .unset] [] := own_entry m [(.ref b), (.int (0 : Int32)), (.int (Int32.ofNat n))] 6 (by simp [Value.category]) rfl
  rw [ef]
  have hcl : (Int32.ofNat n).toNatClampNeg = n := own_clamp (by omega)
  have hcl2 : (Int32.ofNat (2 * n)).toNatClampNeg = 2 * n := own_clamp (by omega)
  refine g_iloadN W0 dS1_0 (pc' := 1) rfl rfl ?_
  refine g_newP W0 dS1_1 (pc' := 3) (cap := 34) rfl (ty := .byte) (dv := (.int 0)) rfl rfl (hw _ (List.mem_of_getElem? (i := 26) rfl)) (own_nn (by omega)) (by rw [hcl]; exact hcap) (by decide) (by decide) (by decide) ?_
  intro T7 h8 cA9 E10 A11 W12
  obtain ⟨a13, g14⟩ : ∃ z, z = h0.size := ⟨_, rfl⟩
  rw [← g14] at A11 W12 ⊢
  refine g_astoreN W12 dS1_3 (pc' := 4) rfl (ls' := #[.val (.ref b), .val (.int (0 : Int32)), .val (.int (Int32.ofNat n)), .val (.ref a13), .unset, .unset]) rfl rfl ?_
  refine g_aloadN W12 dS1_4 (pc' := 5) rfl rfl rfl ?_
  refine g_iloadN W12 dS1_5 (pc' := 6) rfl rfl ?_
  refine g_aloadN W12 dS1_6 (pc' := 7) rfl rfl rfl ?_
  refine g_iconst W12 dS1_7 (pc' := 8) rfl (v := 0) rfl ?_
  refine g_iloadN W12 dS1_8 (pc' := 9) rfl rfl ?_
  have hne : b ≠ a13 := Nat.ne_of_lt (by rw [g14]; exact K.lt)
  refine g_static W12 dS1_9 (pc' := 12) rfl (hw _ (List.mem_of_getElem? (i := 27) rfl)) (hw _ (List.mem_of_getElem? (i := 28) rfl)) (hw _ (List.mem_of_getElem? (i := 24) rfl)) (hw _ (List.mem_of_getElem? (i := 29) rfl)) (by decide) (con_cmp5 l Z a0 hw hEL b a13 kC cA9 cs dv n h8 hn hcap (K.ext E10) (own_pad0 n A11) hne) pd___CI_BII_I (argsL := [(.ref b), (.int (0 : Int32)), (.ref a13), (.int (0 : Int32)), (.int (Int32.ofNat n))]) (st := []) rfl rfl rfl rfl (by decide) (w := 0) (Nat.le_of_eq rfl) (by decide) (by decide) (by decide) (by simp) (fun q hq => Or.inr (by obtain ⟨i, -, rfl⟩ := List.mem_map.mp hq; show s.heap.size ≤ a13; rw [g14]; exact W0.grown)) ?_
  intro v15 T16 h17 S20 q18 W21
  have W19 := W21.sf (SF' := [a13]) (fun _ hx => List.mem_append_right _ hx)
  obtain ⟨r, hr1, rfl, hK, hr2, hr3, hD⟩ := q18
  have X1 : Ext h0 h17 := own_ext_keep E10 hK (by intro x hx; rw [List.mem_singleton.mp hx, g14]; exact Nat.le_refl _)
  refine g_istore W19 dS1_12 (pc' := 14) rfl (ls' := #[.val (.ref b), .val (.int (0 : Int32)), .val (.int (Int32.ofNat n)), .val (.ref a13), .val (.int (Int32.ofNat r)), .unset]) rfl ?_
  refine g_iload W19 dS1_14 (pc' := 16) rfl rfl ?_
  refine g_iloadN W19 dS1_16 (pc' := 17) rfl rfl ?_
  rcases Nat.lt_or_ge r n with hrn | hrn
  · skip
    exact absurd (hr3 hrn) (hp _ (own_mem (by omega)))
  · skip
    obtain rfl : n = r := by omega
    refine g_icY W19 dS1_17 (pc' := 57) (teq rfl).1 (by decide) (by decide) ?_
    rw [own_cmpn cs hn] at hD
    refine g_aloadN W19 dS1_57 (pc' := 58) rfl rfl rfl ?_
    exact g_aret W19 dS1_58 rfl rfl rfl rfl ⟨a13, _, 0, _, _, rfl, X1, (by first | exact Nat.le_refl _ | exact Nat.le_of_eq g14.symm), hD, Or.inl ⟨rfl, by rw [hn], rfl, fun c hc => own_all hn hr2 c hc⟩⟩
set_option maxRecDepth 65536 in
set_option maxHeartbeats 4000000 in
theorem con_cod (l : Launch) (Z : State) (a0 : Array Value) (hw : ∀ d ∈ tables_1, d.before a0 Z = true) (hEL : EW Z a0 consts_1) (t : Addr) (kb : ClassId) (cs : List Int32) (cd N2 : Int32) (vs : List Value) (dv : Value) (n : Nat) (h0 : Heap) (hn : cs.length = n) (hcap : n ≤ 34) (K : Arv Z h0 t kb .byte N2 vs dv) (hc : StrChars.Road.CodA cs cd N2 vs) :
    Ocon l Z consts_1 (⟨"java/lang/StringUTF16", "coderFromArrayLen", "([BI)B"⟩ : MethodName) jdk_52_method_15_code 2 (some .byte) [] ({ frames := 0, cells := 0, slots := 0, locals := 0 } : Room) #[(.ref t), (.int (Int32.ofNat n))] h0 [] [] (fun v h _ => v = some (.int cd) ∧ (cd = 0 ∨ cd = 1) ∧ h0 = h) := by
  refine own_con (a0 := a0) hEL (plainFor_of_name pn_java_lang_StringUTF16) ?_
  intro p e s m below meth c T hs W0
  have ef : entryFrame m #[(.ref t), (.int (Int32.ofNat n))] 2 = mkF m 0 #[.val (.ref t), .val (.int (Int32.ofNat n))] [] := own_entry m [(.ref t), (.int (Int32.ofNat n))] 2 (by simp [Value.category]) rfl
  rw [ef]
  refine g_iloadN W0 dS2_0 (pc' := 1) rfl rfl ?_
  refine g_aloadN W0 dS2_1 (pc' := 2) rfl rfl rfl ?_
  refine g_alen W0 dS2_2 (pc' := 3) rfl K ?_
  refine g_isub W0 dS2_3 (pc' := 4) rfl ?_
  refine g_bipush W0 dS2_4 (pc' := 6) rfl (v := 31) rfl ?_
  refine g_iushr W0 dS2_6 (pc' := 7) rfl ?_
  refine g_i2b W0 dS2_7 (pc' := 8) rfl ?_
  rcases hc with ⟨rfl, rfl, -, -⟩ | ⟨rfl, rfl, -, c1, hc1, -⟩
  · skip
    rw [show ((XT.ushr ((Int32.ofNat n) - (Int32.ofNat cs.length)) (31 : Int32))).toInt8.toInt32 = 0 from by rw [hn, Int32.sub_self]; decide]
    exact g_iret W0 dS2_8 rfl (Or.inr (Or.inr (Or.inl rfl))) rfl ⟨rfl, Or.inl rfl, rfl⟩
  · skip
    rw [show ((XT.ushr ((Int32.ofNat n) - (Int32.ofNat (2 * cs.length))) (31 : Int32))).toInt8.toInt32 = 1 from by subst hn; exact own_neg (List.length_pos_of_mem hc1) (by omega)]
    exact g_iret W0 dS2_8 rfl (Or.inr (Or.inr (Or.inl rfl))) rfl ⟨rfl, Or.inr rfl, rfl⟩
theorem pn_java_lang_String : plainName "java/lang/String" = true := by first | (simp [plainName, overriddenIn]; done) | decide +kernel
set_option maxRecDepth 65536 in
set_option maxHeartbeats 4000000 in
theorem con_new4 (l : Launch) (Z : State) (a0 : Array Value) (hw : ∀ d ∈ tables_1, d.before a0 Z = true) (hEL : EW Z a0 consts_1) (x b : Addr) (kC : ClassId) (cs : List Int32) (dv v0 c0 : Value) (z : Int32) (n : Nat) (h0 : Heap) (O : Ext Z.heap h0) (hp : ∀ c ∈ cs, ¬ (255 : Int32) < c) (hx : Z.heap.size ≤ x) (hn : cs.length = n) (hcap : n ≤ 34) (E : Exa Z h0 x "java/lang/String") (FV : Fld Z h0 x "java/lang/String" "value" "[B" v0) (FC : Fld Z h0 x "java/lang/String" "coder" "B" c0) (K : Arv Z h0 b kC .char (Int32.ofNat n) (cs.map Value.int) dv) (hb : ∀ c ∈ cs, ¬ c < 0 ∧ ¬ (65535 : Int32) < c) (SC : Sta Z Z.heap "java/lang/String" "COMPACT_STRINGS" "Z" (.int z)) (hz : ¬ z = 0) (hpos : 0 < n) :
    Ocon l Z consts_1 (⟨"java/lang/String", "<init>", "([CIILjava/lang/Void;)V"⟩ : MethodName) jdk_42_method_149_code 6 none [] ({ frames := 2, cells := 4, slots := 42, locals := 35 } : Room) #[(.ref x), (.ref b), (.int (0 : Int32)), (.int (Int32.ofNat n)), .null] h0 [x] [(⟨x, RoadKit.slotOf Z "java/lang/String" "coder" "B"⟩ : Loc), (⟨x, RoadKit.slotOf Z "java/lang/String" "value" "[B"⟩ : Loc)] (fun v h _ => v = none ∧ Keep h0 h [x] ∧ OStr Z h x cs) := by
  refine own_con (a0 := a0) hEL (plainFor_of_name pn_java_lang_String) ?_
  intro p e s m below meth c T hs W0
  have ef : entryFrame m #[(.ref x), (.ref b), (.int (0 : Int32)), (.int (Int32.ofNat n)), .null] 6 = mkF m 0 #[.val (.ref x), .val (.ref b), .val (.int (0 : Int32)), .val (.int (Int32.ofNat n)), .val .null, .unset] [] := own_entry m [(.ref x), (.ref b), (.int (0 : Int32)), (.int (Int32.ofNat n)), .null] 6 (by simp [Value.category]) rfl
  rw [ef]
  have hsl : RoadKit.slotOf Z "java/lang/String" "value" "[B" ≠ RoadKit.slotOf Z "java/lang/String" "coder" "B" := slot_ne (t := .array .byte) (t' := .byte) (Or.inr (hw _ (List.mem_of_getElem? (i := 36) rfl))) (Or.inr (hw _ (List.mem_of_getElem? (i := 34) rfl))) (by decide) (by decide) (by decide)
  refine g_aloadN W0 dS3_0 (pc' := 1) rfl rfl rfl ?_
  refine g_initO W0 dS3_1 (pc' := 4) rfl (hw _ (List.mem_of_getElem? (i := 18) rfl)) (hw _ (List.mem_of_getElem? (i := 19) rfl)) (hw _ (List.mem_of_getElem? (i := 20) rfl)) rfl (by decide) (w := 0) (Nat.le_refl _) (by decide) ?_
  intro T22 W23
  refine g_iloadN W23 dS3_4 (pc' := 5) rfl rfl ?_
  rcases Nat.eq_zero_or_pos n with hn0 | hn0
  · skip
    exact absurd hpos (by omega)
  · skip
    have hnz : ¬ Int32.ofNat n = 0 := Jvm.Free.XT.nz32 (by omega) hn0
    refine g_ifY W23 dS3_5 (pc' := 27) (feq hnz).2 (by decide) (by decide) ?_
    refine g_getS W23 dS3_27 (pc' := 30) rfl (hw _ (List.mem_of_getElem? (i := 21) rfl)) (SC.ext O) ?_
    intro T25 W24
    refine g_ifN W24 dS3_30 (pc' := 33) (feq hz).1 rfl ?_
    refine g_aloadN W24 dS3_33 (pc' := 34) rfl rfl rfl ?_
    refine g_iloadN W24 dS3_34 (pc' := 35) rfl rfl ?_
    refine g_iloadN W24 dS3_35 (pc' := 36) rfl rfl ?_
    refine g_static W24 dS3_36 (pc' := 39) rfl (hw _ (List.mem_of_getElem? (i := 22) rfl)) (hw _ (List.mem_of_getElem? (i := 23) rfl)) (hw _ (List.mem_of_getElem? (i := 24) rfl)) (hw _ (List.mem_of_getElem? (i := 25) rfl)) (by decide) (con_cmp3 l Z a0 hw hEL b kC cs dv n h0 O hn hcap K hb hp) pd___CII__B (argsL := [(.ref b), (.int (0 : Int32)), (.int (Int32.ofNat n))]) (st := []) rfl rfl rfl rfl (by decide) (w := 0) (Nat.le_of_eq rfl) (by decide) (by decide) (by decide) (by simp) (fun q hq => nomatch hq) ?_
    intro v26 T27 h28 S31 q29 W32
    have W30 := W32.sf (SF' := [x]) (fun _ hx => List.mem_append_right _ hx)
    obtain ⟨t, kb, cd, N2, vs, rfl, X, nt, A, CA⟩ := q29
    refine g_astore W30 dS3_39 (pc' := 41) rfl (ls' := #[.val (.ref x), .val (.ref b), .val (.int (0 : Int32)), .val (.int (Int32.ofNat n)), .val .null, .val (.ref t)]) rfl rfl ?_
    refine g_aloadN W30 dS3_41 (pc' := 42) rfl rfl rfl ?_
    refine g_aload W30 dS3_42 (pc' := 44) rfl rfl rfl ?_
    refine g_iloadN W30 dS3_44 (pc' := 45) rfl rfl ?_
    refine g_static W30 dS3_45 (pc' := 48) rfl (hw _ (List.mem_of_getElem? (i := 30) rfl)) (hw _ (List.mem_of_getElem? (i := 31) rfl)) (hw _ (List.mem_of_getElem? (i := 24) rfl)) (hw _ (List.mem_of_getElem? (i := 32) rfl)) (by decide) (con_cod l Z a0 hw hEL t kb cs cd N2 vs _ n h28 hn hcap A CA) pd___BI_B (argsL := [(.ref t), (.int (Int32.ofNat n))]) (st := [(.ref x)]) rfl rfl rfl rfl (by decide) (w := 1) (Nat.le_of_eq rfl) (by decide) (by decide) (by decide) (by simp) (fun q hq => nomatch hq) ?_
    intro v33 T34 h35 S38 q36 W39
    have W37 := W39.sf (SF' := [x]) (fun _ hx => List.mem_append_right _ hx)
    obtain ⟨rfl, hcd, rfl⟩ := q36
    have hnx : t ≠ x := Nat.ne_of_gt (Nat.lt_of_lt_of_le E.lt nt)
    refine g_putF W37 dS3_48 (pc' := 51) rfl (hw _ (List.mem_of_getElem? (i := 33) rfl)) (FC.ext X) (E.ext X) (Or.inr ⟨(hw _ (List.mem_of_getElem? (i := 34) rfl)), rfl, rfl⟩) (hw _ (List.mem_of_getElem? (i := 8) rfl)) (ty := .byte) (by decide) (by rcases hcd with rfl | rfl <;> rfl) (by rcases hcd with rfl | rfl <;> rfl) (by simp) (Or.inl (by simp)) ?_
    intro T40 h41 w42 W43
    refine g_aloadN W43 dS3_51 (pc' := 52) rfl rfl rfl ?_
    refine g_aload W43 dS3_52 (pc' := 54) rfl rfl rfl ?_
    refine g_putF W43 dS3_54 (pc' := 57) rfl (hw _ (List.mem_of_getElem? (i := 35) rfl)) ((FV.ext X).other w42 (Or.inr hsl)) ((E.ext X).wr w42) (Or.inr ⟨(hw _ (List.mem_of_getElem? (i := 36) rfl)), rfl, rfl⟩) (hw _ (List.mem_of_getElem? (i := 8) rfl)) (ty := .array .byte) (by decide) rfl rfl (by simp) (Or.inl (by simp)) ?_
    intro T44 h45 w46 W47
    exact g_return W47 dS3_57 rfl ⟨rfl, ((own_keep_ext X).wr w42 (Or.inl (by simp))).wr w46 (Or.inl (by simp)), ((E.ext X).wr w42).wr w46, hb, t, kb, cd, N2, vs, ((FV.ext X).other w42 (Or.inr hsl)).same w46, ((FC.ext X).same w42).other w46 (Or.inr (Ne.symm hsl)), (A.other w42 hnx).other w46 hnx, CA⟩
set_option maxRecDepth 65536 in
set_option maxHeartbeats 4000000 in
theorem con_new1 (l : Launch) (Z : State) (a0 : Array Value) (hw : ∀ d ∈ tables_1, d.before a0 Z = true) (hEL : EW Z a0 consts_1) (x b : Addr) (kC : ClassId) (cs : List Int32) (dv v0 c0 : Value) (z : Int32) (n : Nat) (h0 : Heap) (O : Ext Z.heap h0) (hp : ∀ c ∈ cs, ¬ (255 : Int32) < c) (hx : Z.heap.size ≤ x) (hn : cs.length = n) (hcap : n ≤ 34) (E : Exa Z h0 x "java/lang/String") (FV : Fld Z h0 x "java/lang/String" "value" "[B" v0) (FC : Fld Z h0 x "java/lang/String" "coder" "B" c0) (K : Arv Z h0 b kC .char (Int32.ofNat n) (cs.map Value.int) dv) (hb : ∀ c ∈ cs, ¬ c < 0 ∧ ¬ (65535 : Int32) < c) (SC : Sta Z Z.heap "java/lang/String" "COMPACT_STRINGS" "Z" (.int z)) (hz : ¬ z = 0) (hpos : 0 < n) :
    Ocon l Z consts_1 (⟨"java/lang/String", "<init>", "([C)V"⟩ : MethodName) jdk_42_method_3_code 2 none [] ({ frames := 3, cells := 4, slots := 42, locals := 52 } : Room) #[(.ref x), (.ref b)] h0 [x] [(⟨x, RoadKit.slotOf Z "java/lang/String" "coder" "B"⟩ : Loc), (⟨x, RoadKit.slotOf Z "java/lang/String" "value" "[B"⟩ : Loc)] (fun v h _ => v = none ∧ Keep h0 h [x] ∧ OStr Z h x cs) := by
  refine own_con (a0 := a0) hEL (plainFor_of_name pn_java_lang_String) ?_
  intro p e s m below meth c T hs W0
  have ef : entryFrame m #[(.ref x), (.ref b)] 2 = mkF m 0 #[.val (.ref x), .val (.ref b)] [] := own_entry m [(.ref x), (.ref b)] 2 (by simp [Value.category]) rfl
  rw [ef]
  refine g_aloadN W0 dS4_0 (pc' := 1) rfl rfl rfl ?_
  refine g_aloadN W0 dS4_1 (pc' := 2) rfl rfl rfl ?_
  refine g_iconst W0 dS4_2 (pc' := 3) rfl (v := 0) rfl ?_
  refine g_aloadN W0 dS4_3 (pc' := 4) rfl rfl rfl ?_
  refine g_alen W0 dS4_4 (pc' := 5) rfl K ?_
  refine g_aconst_null W0 dS4_5 (pc' := 6) rfl ?_
  refine g_special W0 dS4_6 (pc' := 9) rfl rfl (hw _ (List.mem_of_getElem? (i := 14) rfl)) (hw _ (List.mem_of_getElem? (i := 15) rfl)) (hw _ (List.mem_of_getElem? (i := 9) rfl)) (hw _ (List.mem_of_getElem? (i := 17) rfl)) (by decide) (con_new4 l Z a0 hw hEL x b kC cs dv v0 c0 z n h0 O hp hx hn hcap E FV FC K hb SC hz hpos) pd___CIILjava_lang_Void__V (argsL := [(.ref b), (.int (0 : Int32)), (.int (Int32.ofNat n)), .null]) (st := []) rfl rfl rfl rfl (by decide) (w := 0) (Nat.le_of_eq rfl) (by decide) (by decide) (by decide) (by simp) (fun q hq => Or.inl hq) ?_
  intro v48 T49 h50 S53 q51 W54
  have W52 := W54.sf (SF' := [x]) (fun _ hx => List.mem_append_right _ hx)
  obtain ⟨rfl, qK, qS⟩ := q51
  exact g_return W52 dS4_9 rfl ⟨rfl, qK, qS⟩
theorem dQ0_0 : decode method_2_code 0 = .ok (.iload_n 0, 1) := by decide +kernel
theorem dQ0_1 : decode method_2_code 1 = .ok (.sipush 255, 3) := by decide +kernel
theorem dQ0_4 : decode method_2_code 4 = .ok (.iand, 1) := by decide +kernel
theorem dQ0_5 : decode method_2_code 5 = .ok (.i2c, 1) := by decide +kernel
theorem dQ0_6 : decode method_2_code 6 = .ok (.ireturn, 1) := by decide +kernel
theorem dQ1_0 : decode method_3_code 0 = .ok (.iload_n 0, 1) := by decide +kernel
theorem dQ1_1 : decode method_3_code 1 = .ok (.bipush 8, 2) := by decide +kernel
theorem dQ1_3 : decode method_3_code 3 = .ok (.iushr, 1) := by decide +kernel
theorem dQ1_4 : decode method_3_code 4 = .ok (.sipush 255, 3) := by decide +kernel
theorem dQ1_7 : decode method_3_code 7 = .ok (.iand, 1) := by decide +kernel
theorem dQ1_8 : decode method_3_code 8 = .ok (.i2c, 1) := by decide +kernel
theorem dQ1_9 : decode method_3_code 9 = .ok (.ireturn, 1) := by decide +kernel
theorem dQ2_0 : decode prog_1_method_4_code 0 = .ok (.new 22, 3) := by decide +kernel
theorem dQ2_3 : decode prog_1_method_4_code 3 = .ok (.dup, 1) := by decide +kernel
theorem dQ2_4 : decode prog_1_method_4_code 4 = .ok (.invokespecial 24, 3) := by decide +kernel
theorem dQ2_7 : decode prog_1_method_4_code 7 = .ok (.aload_n 0, 1) := by decide +kernel
theorem dQ2_8 : decode prog_1_method_4_code 8 = .ok (.invokevirtual 27, 3) := by decide +kernel
theorem dQ2_11 : decode prog_1_method_4_code 11 = .ok (.ldc 31, 2) := by decide +kernel
theorem dQ2_13 : decode prog_1_method_4_code 13 = .ok (.invokevirtual 27, 3) := by decide +kernel
theorem dQ2_16 : decode prog_1_method_4_code 16 = .ok (.aload_n 1, 1) := by decide +kernel
theorem dQ2_17 : decode prog_1_method_4_code 17 = .ok (.invokevirtual 27, 3) := by decide +kernel
theorem dQ2_20 : decode prog_1_method_4_code 20 = .ok (.ldc 33, 2) := by decide +kernel
theorem dQ2_22 : decode prog_1_method_4_code 22 = .ok (.invokevirtual 27, 3) := by decide +kernel
theorem dQ2_25 : decode prog_1_method_4_code 25 = .ok (.aload_n 2, 1) := by decide +kernel
theorem dQ2_26 : decode prog_1_method_4_code 26 = .ok (.invokevirtual 27, 3) := by decide +kernel
theorem dQ2_29 : decode prog_1_method_4_code 29 = .ok (.invokevirtual 35, 3) := by decide +kernel
theorem dQ2_32 : decode prog_1_method_4_code 32 = .ok (.invokestatic 39, 3) := by decide +kernel
theorem dQ2_35 : decode prog_1_method_4_code 35 = .ok (.areturn, 1) := by decide +kernel
theorem dQ3_0 : decode prog_1_method_3_code 0 = .ok (.new 8, 3) := by decide +kernel
theorem dQ3_3 : decode prog_1_method_3_code 3 = .ok (.dup, 1) := by decide +kernel
theorem dQ3_4 : decode prog_1_method_3_code 4 = .ok (.iconst 2, 1) := by decide +kernel
theorem dQ3_5 : decode prog_1_method_3_code 5 = .ok (.iconst 0, 1) := by decide +kernel
theorem dQ3_6 : decode prog_1_method_3_code 6 = .ok (.aload_n 0, 1) := by decide +kernel
theorem dQ3_7 : decode prog_1_method_3_code 7 = .ok (.invokespecial 19, 3) := by decide +kernel
theorem dQ3_10 : decode prog_1_method_3_code 10 = .ok (.areturn, 1) := by decide +kernel
theorem dQ4_0 : decode prog_1_method_1_code 0 = .ok (.aload_n 0, 1) := by decide +kernel
theorem dQ4_1 : decode prog_1_method_1_code 1 = .ok (.aload_n 3, 1) := by decide +kernel
theorem dQ4_2 : decode prog_1_method_1_code 2 = .ok (.invokespecial 1, 3) := by decide +kernel
theorem dQ4_5 : decode prog_1_method_1_code 5 = .ok (.aload_n 0, 1) := by decide +kernel
theorem dQ4_6 : decode prog_1_method_1_code 6 = .ok (.iload_n 1, 1) := by decide +kernel
theorem dQ4_7 : decode prog_1_method_1_code 7 = .ok (.putfield 7, 3) := by decide +kernel
theorem dQ4_10 : decode prog_1_method_1_code 10 = .ok (.aload_n 0, 1) := by decide +kernel
theorem dQ4_11 : decode prog_1_method_1_code 11 = .ok (.iload_n 2, 1) := by decide +kernel
theorem dQ4_12 : decode prog_1_method_1_code 12 = .ok (.putfield 13, 3) := by decide +kernel
theorem dQ4_15 : decode prog_1_method_1_code 15 = .ok (.return_, 1) := by decide +kernel
theorem dQ5_0 : decode prog_1_method_7_code 0 = .ok (.aload_n 0, 1) := by decide +kernel
theorem dQ5_1 : decode prog_1_method_7_code 1 = .ok (.getfield 7, 3) := by decide +kernel
theorem dQ5_4 : decode prog_1_method_7_code 4 = .ok (.ireturn, 1) := by decide +kernel
theorem dQ6_0 : decode prog_1_method_8_code 0 = .ok (.aload_n 0, 1) := by decide +kernel
theorem dQ6_1 : decode prog_1_method_8_code 1 = .ok (.getfield 13, 3) := by decide +kernel
theorem dQ6_4 : decode prog_1_method_8_code 4 = .ok (.ireturn, 1) := by decide +kernel
theorem dQ7_0 : decode jdk_78_method_6_code 0 = .ok (.aload_n 0, 1) := by decide +kernel
theorem dQ7_1 : decode jdk_78_method_6_code 1 = .ok (.getfield 31, 3) := by decide +kernel
theorem dQ7_4 : decode jdk_78_method_6_code 4 = .ok (.areturn, 1) := by decide +kernel
theorem dQ8_0 : decode jdk_67_method_1_code 0 = .ok (.aload_n 0, 1) := by decide +kernel
theorem dQ8_1 : decode jdk_67_method_1_code 1 = .ok (.bipush 16, 2) := by decide +kernel
theorem dQ8_3 : decode jdk_67_method_1_code 3 = .ok (.invokespecial 1, 3) := by decide +kernel
theorem dQ8_6 : decode jdk_67_method_1_code 6 = .ok (.return_, 1) := by decide +kernel
theorem dQ9_0 : decode jdk_68_method_2_code 0 = .ok (.aload_n 0, 1) := by decide +kernel
theorem dQ9_1 : decode jdk_68_method_2_code 1 = .ok (.invokespecial 3, 3) := by decide +kernel
theorem dQ9_4 : decode jdk_68_method_2_code 4 = .ok (.getstatic 18, 3) := by decide +kernel
theorem dQ9_7 : decode jdk_68_method_2_code 7 = .ok (.ifCond .eq 18, 3) := by decide +kernel
theorem dQ9_10 : decode jdk_68_method_2_code 10 = .ok (.aload_n 0, 1) := by decide +kernel
theorem dQ9_11 : decode jdk_68_method_2_code 11 = .ok (.iload_n 1, 1) := by decide +kernel
theorem dQ9_12 : decode jdk_68_method_2_code 12 = .ok (.newarray .byte, 2) := by decide +kernel
theorem dQ9_14 : decode jdk_68_method_2_code 14 = .ok (.putfield 15, 3) := by decide +kernel
theorem dQ9_17 : decode jdk_68_method_2_code 17 = .ok (.aload_n 0, 1) := by decide +kernel
theorem dQ9_18 : decode jdk_68_method_2_code 18 = .ok (.iconst 0, 1) := by decide +kernel
theorem dQ9_19 : decode jdk_68_method_2_code 19 = .ok (.putfield 22, 3) := by decide +kernel
theorem dQ9_22 : decode jdk_68_method_2_code 22 = .ok (.goto 16, 3) := by decide +kernel
theorem dQ9_25 : decode jdk_68_method_2_code 25 = .ok (.aload_n 0, 1) := by decide +kernel
theorem dQ9_26 : decode jdk_68_method_2_code 26 = .ok (.iload_n 1, 1) := by decide +kernel
theorem dQ9_27 : decode jdk_68_method_2_code 27 = .ok (.invokestatic 26, 3) := by decide +kernel
theorem dQ9_30 : decode jdk_68_method_2_code 30 = .ok (.putfield 15, 3) := by decide +kernel
theorem dQ9_33 : decode jdk_68_method_2_code 33 = .ok (.aload_n 0, 1) := by decide +kernel
theorem dQ9_34 : decode jdk_68_method_2_code 34 = .ok (.iconst 1, 1) := by decide +kernel
theorem dQ9_35 : decode jdk_68_method_2_code 35 = .ok (.putfield 22, 3) := by decide +kernel
theorem dQ9_38 : decode jdk_68_method_2_code 38 = .ok (.return_, 1) := by decide +kernel
theorem dQ10_0 : decode jdk_67_method_7_code 0 = .ok (.aload_n 0, 1) := by decide +kernel
theorem dQ10_1 : decode jdk_67_method_7_code 1 = .ok (.aload_n 1, 1) := by decide +kernel
theorem dQ10_2 : decode jdk_67_method_7_code 2 = .ok (.invokespecial 29, 3) := by decide +kernel
theorem dQ10_5 : decode jdk_67_method_7_code 5 = .ok (.pop, 1) := by decide +kernel
theorem dQ10_6 : decode jdk_67_method_7_code 6 = .ok (.aload_n 0, 1) := by decide +kernel
theorem dQ10_7 : decode jdk_67_method_7_code 7 = .ok (.areturn, 1) := by decide +kernel
theorem dQ11_0 : decode jdk_68_method_22_code 0 = .ok (.aload_n 1, 1) := by decide +kernel
theorem dQ11_1 : decode jdk_68_method_22_code 1 = .ok (.ifnonnull 8, 3) := by decide +kernel
theorem dQ11_4 : decode jdk_68_method_22_code 4 = .ok (.aload_n 0, 1) := by decide +kernel
theorem dQ11_5 : decode jdk_68_method_22_code 5 = .ok (.invokevirtual 204, 3) := by decide +kernel
theorem dQ11_8 : decode jdk_68_method_22_code 8 = .ok (.areturn, 1) := by decide +kernel
theorem dQ11_9 : decode jdk_68_method_22_code 9 = .ok (.aload_n 1, 1) := by decide +kernel
theorem dQ11_10 : decode jdk_68_method_22_code 10 = .ok (.invokevirtual 32, 3) := by decide +kernel
theorem dQ11_13 : decode jdk_68_method_22_code 13 = .ok (.istore_n 2, 1) := by decide +kernel
theorem dQ11_14 : decode jdk_68_method_22_code 14 = .ok (.aload_n 0, 1) := by decide +kernel
theorem dQ11_15 : decode jdk_68_method_22_code 15 = .ok (.aload_n 0, 1) := by decide +kernel
theorem dQ11_16 : decode jdk_68_method_22_code 16 = .ok (.getfield 79, 3) := by decide +kernel
theorem dQ11_19 : decode jdk_68_method_22_code 19 = .ok (.iload_n 2, 1) := by decide +kernel
theorem dQ11_20 : decode jdk_68_method_22_code 20 = .ok (.iadd, 1) := by decide +kernel
theorem dQ11_21 : decode jdk_68_method_22_code 21 = .ok (.invokevirtual 100, 3) := by decide +kernel
theorem dQ11_24 : decode jdk_68_method_22_code 24 = .ok (.aload_n 0, 1) := by decide +kernel
theorem dQ11_25 : decode jdk_68_method_22_code 25 = .ok (.aload_n 0, 1) := by decide +kernel
theorem dQ11_26 : decode jdk_68_method_22_code 26 = .ok (.getfield 79, 3) := by decide +kernel
theorem dQ11_29 : decode jdk_68_method_22_code 29 = .ok (.aload_n 1, 1) := by decide +kernel
theorem dQ11_30 : decode jdk_68_method_22_code 30 = .ok (.invokevirtual 208, 3) := by decide +kernel
theorem dQ11_33 : decode jdk_68_method_22_code 33 = .ok (.aload_n 0, 1) := by decide +kernel
theorem dQ11_34 : decode jdk_68_method_22_code 34 = .ok (.dup, 1) := by decide +kernel
theorem dQ11_35 : decode jdk_68_method_22_code 35 = .ok (.getfield 79, 3) := by decide +kernel
theorem dQ11_38 : decode jdk_68_method_22_code 38 = .ok (.iload_n 2, 1) := by decide +kernel
theorem dQ11_39 : decode jdk_68_method_22_code 39 = .ok (.iadd, 1) := by decide +kernel
theorem dQ11_40 : decode jdk_68_method_22_code 40 = .ok (.putfield 79, 3) := by decide +kernel
theorem dQ11_43 : decode jdk_68_method_22_code 43 = .ok (.aload_n 0, 1) := by decide +kernel
theorem dQ11_44 : decode jdk_68_method_22_code 44 = .ok (.areturn, 1) := by decide +kernel
theorem dQ12_0 : decode jdk_68_method_9_code 0 = .ok (.aload_n 0, 1) := by decide +kernel
theorem dQ12_1 : decode jdk_68_method_9_code 1 = .ok (.getfield 15, 3) := by decide +kernel
theorem dQ12_4 : decode jdk_68_method_9_code 4 = .ok (.arraylength, 1) := by decide +kernel
theorem dQ12_5 : decode jdk_68_method_9_code 5 = .ok (.aload_n 0, 1) := by decide +kernel
theorem dQ12_6 : decode jdk_68_method_9_code 6 = .ok (.getfield 22, 3) := by decide +kernel
theorem dQ12_9 : decode jdk_68_method_9_code 9 = .ok (.ishr, 1) := by decide +kernel
theorem dQ12_10 : decode jdk_68_method_9_code 10 = .ok (.istore_n 2, 1) := by decide +kernel
theorem dQ12_11 : decode jdk_68_method_9_code 11 = .ok (.iload_n 1, 1) := by decide +kernel
theorem dQ12_12 : decode jdk_68_method_9_code 12 = .ok (.iload_n 2, 1) := by decide +kernel
theorem dQ12_13 : decode jdk_68_method_9_code 13 = .ok (.isub, 1) := by decide +kernel
theorem dQ12_14 : decode jdk_68_method_9_code 14 = .ok (.ifCond .le 24, 3) := by decide +kernel
theorem dQ12_17 : decode jdk_68_method_9_code 17 = .ok (.aload_n 0, 1) := by decide +kernel
theorem dQ12_18 : decode jdk_68_method_9_code 18 = .ok (.aload_n 0, 1) := by decide +kernel
theorem dQ12_19 : decode jdk_68_method_9_code 19 = .ok (.getfield 15, 3) := by decide +kernel
theorem dQ12_22 : decode jdk_68_method_9_code 22 = .ok (.aload_n 0, 1) := by decide +kernel
theorem dQ12_23 : decode jdk_68_method_9_code 23 = .ok (.iload_n 1, 1) := by decide +kernel
theorem dQ12_24 : decode jdk_68_method_9_code 24 = .ok (.invokevirtual 104, 3) := by decide +kernel
theorem dQ12_27 : decode jdk_68_method_9_code 27 = .ok (.aload_n 0, 1) := by decide +kernel
theorem dQ12_28 : decode jdk_68_method_9_code 28 = .ok (.getfield 22, 3) := by decide +kernel
theorem dQ12_31 : decode jdk_68_method_9_code 31 = .ok (.ishl, 1) := by decide +kernel
theorem dQ12_32 : decode jdk_68_method_9_code 32 = .ok (.invokestatic 108, 3) := by decide +kernel
theorem dQ12_35 : decode jdk_68_method_9_code 35 = .ok (.putfield 15, 3) := by decide +kernel
theorem dQ12_38 : decode jdk_68_method_9_code 38 = .ok (.return_, 1) := by decide +kernel
theorem dQ13_0 : decode jdk_68_method_73_code 0 = .ok (.aload_n 0, 1) := by decide +kernel
theorem dQ13_1 : decode jdk_68_method_73_code 1 = .ok (.aload_n 2, 1) := by decide +kernel
theorem dQ13_2 : decode jdk_68_method_73_code 2 = .ok (.invokevirtual 397, 3) := by decide +kernel
theorem dQ13_5 : decode jdk_68_method_73_code 5 = .ok (.aload_n 2, 1) := by decide +kernel
theorem dQ13_6 : decode jdk_68_method_73_code 6 = .ok (.aload_n 0, 1) := by decide +kernel
theorem dQ13_7 : decode jdk_68_method_73_code 7 = .ok (.getfield 15, 3) := by decide +kernel
theorem dQ13_10 : decode jdk_68_method_73_code 10 = .ok (.iload_n 1, 1) := by decide +kernel
theorem dQ13_11 : decode jdk_68_method_73_code 11 = .ok (.aload_n 0, 1) := by decide +kernel
theorem dQ13_12 : decode jdk_68_method_73_code 12 = .ok (.getfield 22, 3) := by decide +kernel
theorem dQ13_15 : decode jdk_68_method_73_code 15 = .ok (.invokevirtual 399, 3) := by decide +kernel
theorem dQ13_18 : decode jdk_68_method_73_code 18 = .ok (.return_, 1) := by decide +kernel
theorem dQ14_0 : decode jdk_68_method_71_code 0 = .ok (.getstatic 18, 3) := by decide +kernel
theorem dQ14_3 : decode jdk_68_method_71_code 3 = .ok (.ifCond .eq 18, 3) := by decide +kernel
theorem dQ14_6 : decode jdk_68_method_71_code 6 = .ok (.aload_n 0, 1) := by decide +kernel
theorem dQ14_7 : decode jdk_68_method_71_code 7 = .ok (.getfield 22, 3) := by decide +kernel
theorem dQ14_10 : decode jdk_68_method_71_code 10 = .ok (.aload_n 1, 1) := by decide +kernel
theorem dQ14_11 : decode jdk_68_method_71_code 11 = .ok (.invokevirtual 40, 3) := by decide +kernel
theorem dQ14_14 : decode jdk_68_method_71_code 14 = .ok (.if_icmp .eq 7, 3) := by decide +kernel
theorem dQ14_17 : decode jdk_68_method_71_code 17 = .ok (.aload_n 0, 1) := by decide +kernel
theorem dQ14_18 : decode jdk_68_method_71_code 18 = .ok (.invokevirtual 195, 3) := by decide +kernel
theorem dQ14_21 : decode jdk_68_method_71_code 21 = .ok (.return_, 1) := by decide +kernel
theorem dQ15_0 : decode jdk_42_method_147_code 0 = .ok (.aload_n 0, 1) := by decide +kernel
theorem dQ15_1 : decode jdk_42_method_147_code 1 = .ok (.invokevirtual 335, 3) := by decide +kernel
theorem dQ15_4 : decode jdk_42_method_147_code 4 = .ok (.iload_n 3, 1) := by decide +kernel
theorem dQ15_5 : decode jdk_42_method_147_code 5 = .ok (.if_icmp .ne 23, 3) := by decide +kernel
theorem dQ15_8 : decode jdk_42_method_147_code 8 = .ok (.aload_n 0, 1) := by decide +kernel
theorem dQ15_9 : decode jdk_42_method_147_code 9 = .ok (.getfield 9, 3) := by decide +kernel
theorem dQ15_12 : decode jdk_42_method_147_code 12 = .ok (.iconst 0, 1) := by decide +kernel
theorem dQ15_13 : decode jdk_42_method_147_code 13 = .ok (.aload_n 1, 1) := by decide +kernel
theorem dQ15_14 : decode jdk_42_method_147_code 14 = .ok (.iload_n 2, 1) := by decide +kernel
theorem dQ15_15 : decode jdk_42_method_147_code 15 = .ok (.iload_n 3, 1) := by decide +kernel
theorem dQ15_16 : decode jdk_42_method_147_code 16 = .ok (.ishl, 1) := by decide +kernel
theorem dQ15_17 : decode jdk_42_method_147_code 17 = .ok (.aload_n 0, 1) := by decide +kernel
theorem dQ15_18 : decode jdk_42_method_147_code 18 = .ok (.getfield 9, 3) := by decide +kernel
theorem dQ15_21 : decode jdk_42_method_147_code 21 = .ok (.arraylength, 1) := by decide +kernel
theorem dQ15_22 : decode jdk_42_method_147_code 22 = .ok (.invokestatic 212, 3) := by decide +kernel
theorem dQ15_25 : decode jdk_42_method_147_code 25 = .ok (.goto 18, 3) := by decide +kernel
theorem dQ15_28 : decode jdk_42_method_147_code 28 = .ok (.aload_n 0, 1) := by decide +kernel
theorem dQ15_29 : decode jdk_42_method_147_code 29 = .ok (.getfield 9, 3) := by decide +kernel
theorem dQ15_32 : decode jdk_42_method_147_code 32 = .ok (.iconst 0, 1) := by decide +kernel
theorem dQ15_33 : decode jdk_42_method_147_code 33 = .ok (.aload_n 1, 1) := by decide +kernel
theorem dQ15_34 : decode jdk_42_method_147_code 34 = .ok (.iload_n 2, 1) := by decide +kernel
theorem dQ15_35 : decode jdk_42_method_147_code 35 = .ok (.aload_n 0, 1) := by decide +kernel
theorem dQ15_36 : decode jdk_42_method_147_code 36 = .ok (.getfield 9, 3) := by decide +kernel
theorem dQ15_39 : decode jdk_42_method_147_code 39 = .ok (.arraylength, 1) := by decide +kernel
theorem dQ15_40 : decode jdk_42_method_147_code 40 = .ok (.invokestatic 106, 3) := by decide +kernel
theorem dQ15_43 : decode jdk_42_method_147_code 43 = .ok (.return_, 1) := by decide +kernel
theorem dQ16_0 : decode jdk_68_method_10_code 0 = .ok (.aload_n 0, 1) := by decide +kernel
theorem dQ16_1 : decode jdk_68_method_10_code 1 = .ok (.getfield 15, 3) := by decide +kernel
theorem dQ16_4 : decode jdk_68_method_10_code 4 = .ok (.arraylength, 1) := by decide +kernel
theorem dQ16_5 : decode jdk_68_method_10_code 5 = .ok (.istore_n 2, 1) := by decide +kernel
theorem dQ16_6 : decode jdk_68_method_10_code 6 = .ok (.iload_n 1, 1) := by decide +kernel
theorem dQ16_7 : decode jdk_68_method_10_code 7 = .ok (.aload_n 0, 1) := by decide +kernel
theorem dQ16_8 : decode jdk_68_method_10_code 8 = .ok (.getfield 22, 3) := by decide +kernel
theorem dQ16_11 : decode jdk_68_method_10_code 11 = .ok (.ishl, 1) := by decide +kernel
theorem dQ16_12 : decode jdk_68_method_10_code 12 = .ok (.istore_n 3, 1) := by decide +kernel
theorem dQ16_13 : decode jdk_68_method_10_code 13 = .ok (.iload_n 3, 1) := by decide +kernel
theorem dQ16_14 : decode jdk_68_method_10_code 14 = .ok (.iload_n 2, 1) := by decide +kernel
theorem dQ16_15 : decode jdk_68_method_10_code 15 = .ok (.isub, 1) := by decide +kernel
theorem dQ16_16 : decode jdk_68_method_10_code 16 = .ok (.istore 4, 2) := by decide +kernel
theorem dQ16_18 : decode jdk_68_method_10_code 18 = .ok (.iload_n 2, 1) := by decide +kernel
theorem dQ16_19 : decode jdk_68_method_10_code 19 = .ok (.iload 4, 2) := by decide +kernel
theorem dQ16_21 : decode jdk_68_method_10_code 21 = .ok (.iload_n 2, 1) := by decide +kernel
theorem dQ16_22 : decode jdk_68_method_10_code 22 = .ok (.iconst 2, 1) := by decide +kernel
theorem dQ16_23 : decode jdk_68_method_10_code 23 = .ok (.aload_n 0, 1) := by decide +kernel
theorem dQ16_24 : decode jdk_68_method_10_code 24 = .ok (.getfield 22, 3) := by decide +kernel
theorem dQ16_27 : decode jdk_68_method_10_code 27 = .ok (.ishl, 1) := by decide +kernel
theorem dQ16_28 : decode jdk_68_method_10_code 28 = .ok (.iadd, 1) := by decide +kernel
theorem dQ16_29 : decode jdk_68_method_10_code 29 = .ok (.invokestatic 114, 3) := by decide +kernel
theorem dQ16_32 : decode jdk_68_method_10_code 32 = .ok (.istore 5, 2) := by decide +kernel
theorem dQ16_34 : decode jdk_68_method_10_code 34 = .ok (.iload 5, 2) := by decide +kernel
theorem dQ16_36 : decode jdk_68_method_10_code 36 = .ok (.ldc 39, 2) := by decide +kernel
theorem dQ16_38 : decode jdk_68_method_10_code 38 = .ok (.if_icmp .ne 13, 3) := by decide +kernel
theorem dQ16_41 : decode jdk_68_method_10_code 41 = .ok (.new 120, 3) := by decide +kernel
theorem dQ16_44 : decode jdk_68_method_10_code 44 = .ok (.dup, 1) := by decide +kernel
theorem dQ16_45 : decode jdk_68_method_10_code 45 = .ok (.ldc 122, 2) := by decide +kernel
theorem dQ16_47 : decode jdk_68_method_10_code 47 = .ok (.invokespecial 124, 3) := by decide +kernel
theorem dQ16_50 : decode jdk_68_method_10_code 50 = .ok (.athrow, 1) := by decide +kernel
theorem dQ16_51 : decode jdk_68_method_10_code 51 = .ok (.iload 5, 2) := by decide +kernel
theorem dQ16_53 : decode jdk_68_method_10_code 53 = .ok (.aload_n 0, 1) := by decide +kernel
theorem dQ16_54 : decode jdk_68_method_10_code 54 = .ok (.getfield 22, 3) := by decide +kernel
theorem dQ16_57 : decode jdk_68_method_10_code 57 = .ok (.ishr, 1) := by decide +kernel
theorem dQ16_58 : decode jdk_68_method_10_code 58 = .ok (.ireturn, 1) := by decide +kernel
theorem dQ17_0 : decode jdk_48_method_27_code 0 = .ok (.iload_n 0, 1) := by decide +kernel
theorem dQ17_1 : decode jdk_48_method_27_code 1 = .ok (.iload_n 1, 1) := by decide +kernel
theorem dQ17_2 : decode jdk_48_method_27_code 2 = .ok (.iload_n 2, 1) := by decide +kernel
theorem dQ17_3 : decode jdk_48_method_27_code 3 = .ok (.invokestatic 194, 3) := by decide +kernel
theorem dQ17_6 : decode jdk_48_method_27_code 6 = .ok (.iadd, 1) := by decide +kernel
theorem dQ17_7 : decode jdk_48_method_27_code 7 = .ok (.istore_n 3, 1) := by decide +kernel
theorem dQ17_8 : decode jdk_48_method_27_code 8 = .ok (.iconst 0, 1) := by decide +kernel
theorem dQ17_9 : decode jdk_48_method_27_code 9 = .ok (.iload_n 3, 1) := by decide +kernel
theorem dQ17_10 : decode jdk_48_method_27_code 10 = .ok (.if_icmp .ge 11, 3) := by decide +kernel
theorem dQ17_13 : decode jdk_48_method_27_code 13 = .ok (.iload_n 3, 1) := by decide +kernel
theorem dQ17_14 : decode jdk_48_method_27_code 14 = .ok (.ldc 200, 2) := by decide +kernel
theorem dQ17_16 : decode jdk_48_method_27_code 16 = .ok (.if_icmp .gt 5, 3) := by decide +kernel
theorem dQ17_19 : decode jdk_48_method_27_code 19 = .ok (.iload_n 3, 1) := by decide +kernel
theorem dQ17_20 : decode jdk_48_method_27_code 20 = .ok (.ireturn, 1) := by decide +kernel
theorem dQ17_21 : decode jdk_48_method_27_code 21 = .ok (.iload_n 0, 1) := by decide +kernel
theorem dQ17_22 : decode jdk_48_method_27_code 22 = .ok (.iload_n 1, 1) := by decide +kernel
theorem dQ17_23 : decode jdk_48_method_27_code 23 = .ok (.invokestatic 201, 3) := by decide +kernel
theorem dQ17_26 : decode jdk_48_method_27_code 26 = .ok (.ireturn, 1) := by decide +kernel
theorem dQ18_0 : decode jdk_29_method_65_code 0 = .ok (.iload_n 0, 1) := by decide +kernel
theorem dQ18_1 : decode jdk_29_method_65_code 1 = .ok (.iload_n 1, 1) := by decide +kernel
theorem dQ18_2 : decode jdk_29_method_65_code 2 = .ok (.if_icmp .lt 7, 3) := by decide +kernel
theorem dQ18_5 : decode jdk_29_method_65_code 5 = .ok (.iload_n 0, 1) := by decide +kernel
theorem dQ18_6 : decode jdk_29_method_65_code 6 = .ok (.goto 4, 3) := by decide +kernel
theorem dQ18_9 : decode jdk_29_method_65_code 9 = .ok (.iload_n 1, 1) := by decide +kernel
theorem dQ18_10 : decode jdk_29_method_65_code 10 = .ok (.ireturn, 1) := by decide +kernel
theorem dQ19_0 : decode jdk_29_method_69_code 0 = .ok (.iload_n 0, 1) := by decide +kernel
theorem dQ19_1 : decode jdk_29_method_69_code 1 = .ok (.iload_n 1, 1) := by decide +kernel
theorem dQ19_2 : decode jdk_29_method_69_code 2 = .ok (.if_icmp .gt 7, 3) := by decide +kernel
theorem dQ19_5 : decode jdk_29_method_69_code 5 = .ok (.iload_n 0, 1) := by decide +kernel
theorem dQ19_6 : decode jdk_29_method_69_code 6 = .ok (.goto 4, 3) := by decide +kernel
theorem dQ19_9 : decode jdk_29_method_69_code 9 = .ok (.iload_n 1, 1) := by decide +kernel
theorem dQ19_10 : decode jdk_29_method_69_code 10 = .ok (.ireturn, 1) := by decide +kernel
theorem dQ20_0 : decode jdk_65_method_121_code 0 = .ok (.iload_n 1, 1) := by decide +kernel
theorem dQ20_1 : decode jdk_65_method_121_code 1 = .ok (.aload_n 0, 1) := by decide +kernel
theorem dQ20_2 : decode jdk_65_method_121_code 2 = .ok (.arraylength, 1) := by decide +kernel
theorem dQ20_3 : decode jdk_65_method_121_code 3 = .ok (.if_icmp .ne 11, 3) := by decide +kernel
theorem dQ20_6 : decode jdk_65_method_121_code 6 = .ok (.aload_n 0, 1) := by decide +kernel
theorem dQ20_7 : decode jdk_65_method_121_code 7 = .ok (.invokevirtual 310, 3) := by decide +kernel
theorem dQ20_10 : decode jdk_65_method_121_code 10 = .ok (.checkcast 311, 3) := by decide +kernel
theorem dQ20_13 : decode jdk_65_method_121_code 13 = .ok (.areturn, 1) := by decide +kernel
theorem dQ20_14 : decode jdk_65_method_121_code 14 = .ok (.iload_n 1, 1) := by decide +kernel
theorem dQ20_15 : decode jdk_65_method_121_code 15 = .ok (.newarray .byte, 2) := by decide +kernel
theorem dQ20_17 : decode jdk_65_method_121_code 17 = .ok (.astore_n 2, 1) := by decide +kernel
theorem dQ20_18 : decode jdk_65_method_121_code 18 = .ok (.aload_n 0, 1) := by decide +kernel
theorem dQ20_19 : decode jdk_65_method_121_code 19 = .ok (.iconst 0, 1) := by decide +kernel
theorem dQ20_20 : decode jdk_65_method_121_code 20 = .ok (.aload_n 2, 1) := by decide +kernel
theorem dQ20_21 : decode jdk_65_method_121_code 21 = .ok (.iconst 0, 1) := by decide +kernel
theorem dQ20_22 : decode jdk_65_method_121_code 22 = .ok (.aload_n 0, 1) := by decide +kernel
theorem dQ20_23 : decode jdk_65_method_121_code 23 = .ok (.arraylength, 1) := by decide +kernel
theorem dQ20_24 : decode jdk_65_method_121_code 24 = .ok (.iload_n 1, 1) := by decide +kernel
theorem dQ20_25 : decode jdk_65_method_121_code 25 = .ok (.invokestatic 304, 3) := by decide +kernel
theorem dQ20_28 : decode jdk_65_method_121_code 28 = .ok (.invokestatic 150, 3) := by decide +kernel
theorem dQ20_31 : decode jdk_65_method_121_code 31 = .ok (.aload_n 2, 1) := by decide +kernel
theorem dQ20_32 : decode jdk_65_method_121_code 32 = .ok (.areturn, 1) := by decide +kernel
theorem dQ21_0 : decode jdk_67_method_42_code 0 = .ok (.new 18, 3) := by decide +kernel
theorem dQ21_3 : decode jdk_67_method_42_code 3 = .ok (.dup, 1) := by decide +kernel
theorem dQ21_4 : decode jdk_67_method_42_code 4 = .ok (.aload_n 0, 1) := by decide +kernel
theorem dQ21_5 : decode jdk_67_method_42_code 5 = .ok (.invokespecial 137, 3) := by decide +kernel
theorem dQ21_8 : decode jdk_67_method_42_code 8 = .ok (.areturn, 1) := by decide +kernel
theorem dQ22_0 : decode jdk_42_method_53_code 0 = .ok (.aload_n 0, 1) := by decide +kernel
theorem dQ22_1 : decode jdk_42_method_53_code 1 = .ok (.aload_n 1, 1) := by decide +kernel
theorem dQ22_2 : decode jdk_42_method_53_code 2 = .ok (.aconst_null, 1) := by decide +kernel
theorem dQ22_3 : decode jdk_42_method_53_code 3 = .ok (.invokespecial 489, 3) := by decide +kernel
theorem dQ22_6 : decode jdk_42_method_53_code 6 = .ok (.return_, 1) := by decide +kernel
theorem dQ23_0 : decode jdk_42_method_150_code 0 = .ok (.aload_n 0, 1) := by decide +kernel
theorem dQ23_1 : decode jdk_42_method_150_code 1 = .ok (.invokespecial 1, 3) := by decide +kernel
theorem dQ23_4 : decode jdk_42_method_150_code 4 = .ok (.aload_n 1, 1) := by decide +kernel
theorem dQ23_5 : decode jdk_42_method_150_code 5 = .ok (.invokevirtual 552, 3) := by decide +kernel
theorem dQ23_8 : decode jdk_42_method_150_code 8 = .ok (.astore_n 3, 1) := by decide +kernel
theorem dQ23_9 : decode jdk_42_method_150_code 9 = .ok (.aload_n 1, 1) := by decide +kernel
theorem dQ23_10 : decode jdk_42_method_150_code 10 = .ok (.invokevirtual 549, 3) := by decide +kernel
theorem dQ23_13 : decode jdk_42_method_150_code 13 = .ok (.istore 4, 2) := by decide +kernel
theorem dQ23_15 : decode jdk_42_method_150_code 15 = .ok (.aload_n 1, 1) := by decide +kernel
theorem dQ23_16 : decode jdk_42_method_150_code 16 = .ok (.invokevirtual 1047, 3) := by decide +kernel
theorem dQ23_19 : decode jdk_42_method_150_code 19 = .ok (.ifCond .eq 22, 3) := by decide +kernel
theorem dQ23_22 : decode jdk_42_method_150_code 22 = .ok (.aload_n 0, 1) := by decide +kernel
theorem dQ23_23 : decode jdk_42_method_150_code 23 = .ok (.iconst 0, 1) := by decide +kernel
theorem dQ23_24 : decode jdk_42_method_150_code 24 = .ok (.putfield 15, 3) := by decide +kernel
theorem dQ23_27 : decode jdk_42_method_150_code 27 = .ok (.aload_n 0, 1) := by decide +kernel
theorem dQ23_28 : decode jdk_42_method_150_code 28 = .ok (.aload_n 3, 1) := by decide +kernel
theorem dQ23_29 : decode jdk_42_method_150_code 29 = .ok (.iconst 0, 1) := by decide +kernel
theorem dQ23_30 : decode jdk_42_method_150_code 30 = .ok (.iload 4, 2) := by decide +kernel
theorem dQ23_32 : decode jdk_42_method_150_code 32 = .ok (.invokestatic 54, 3) := by decide +kernel
theorem dQ23_35 : decode jdk_42_method_150_code 35 = .ok (.putfield 9, 3) := by decide +kernel
theorem dQ23_38 : decode jdk_42_method_150_code 38 = .ok (.goto 59, 3) := by decide +kernel
theorem dQ23_41 : decode jdk_42_method_150_code 41 = .ok (.getstatic 38, 3) := by decide +kernel
theorem dQ23_44 : decode jdk_42_method_150_code 44 = .ok (.ifCond .eq 35, 3) := by decide +kernel
theorem dQ23_47 : decode jdk_42_method_150_code 47 = .ok (.aload_n 1, 1) := by decide +kernel
theorem dQ23_48 : decode jdk_42_method_150_code 48 = .ok (.getfield 1048, 3) := by decide +kernel
theorem dQ23_51 : decode jdk_42_method_150_code 51 = .ok (.ifCond .eq 28, 3) := by decide +kernel
theorem dQ23_54 : decode jdk_42_method_150_code 54 = .ok (.aload_n 0, 1) := by decide +kernel
theorem dQ23_55 : decode jdk_42_method_150_code 55 = .ok (.aload_n 3, 1) := by decide +kernel
theorem dQ23_56 : decode jdk_42_method_150_code 56 = .ok (.iconst 0, 1) := by decide +kernel
theorem dQ23_57 : decode jdk_42_method_150_code 57 = .ok (.iload 4, 2) := by decide +kernel
theorem dQ23_59 : decode jdk_42_method_150_code 59 = .ok (.invokestatic 1051, 3) := by decide +kernel
theorem dQ23_62 : decode jdk_42_method_150_code 62 = .ok (.putfield 9, 3) := by decide +kernel
theorem dQ23_65 : decode jdk_42_method_150_code 65 = .ok (.aload_n 0, 1) := by decide +kernel
theorem dQ23_66 : decode jdk_42_method_150_code 66 = .ok (.aload_n 0, 1) := by decide +kernel
theorem dQ23_67 : decode jdk_42_method_150_code 67 = .ok (.getfield 9, 3) := by decide +kernel
theorem dQ23_70 : decode jdk_42_method_150_code 70 = .ok (.iload 4, 2) := by decide +kernel
theorem dQ23_72 : decode jdk_42_method_150_code 72 = .ok (.invokestatic 47, 3) := by decide +kernel
theorem dQ23_75 : decode jdk_42_method_150_code 75 = .ok (.putfield 15, 3) := by decide +kernel
theorem dQ23_78 : decode jdk_42_method_150_code 78 = .ok (.return_, 1) := by decide +kernel
theorem dQ23_79 : decode jdk_42_method_150_code 79 = .ok (.aload_n 0, 1) := by decide +kernel
theorem dQ23_80 : decode jdk_42_method_150_code 80 = .ok (.iconst 1, 1) := by decide +kernel
theorem dQ23_81 : decode jdk_42_method_150_code 81 = .ok (.putfield 15, 3) := by decide +kernel
theorem dQ23_84 : decode jdk_42_method_150_code 84 = .ok (.aload_n 0, 1) := by decide +kernel
theorem dQ23_85 : decode jdk_42_method_150_code 85 = .ok (.aload_n 3, 1) := by decide +kernel
theorem dQ23_86 : decode jdk_42_method_150_code 86 = .ok (.iconst 0, 1) := by decide +kernel
theorem dQ23_87 : decode jdk_42_method_150_code 87 = .ok (.iload 4, 2) := by decide +kernel
theorem dQ23_89 : decode jdk_42_method_150_code 89 = .ok (.iconst 1, 1) := by decide +kernel
theorem dQ23_90 : decode jdk_42_method_150_code 90 = .ok (.ishl, 1) := by decide +kernel
theorem dQ23_91 : decode jdk_42_method_150_code 91 = .ok (.invokestatic 54, 3) := by decide +kernel
theorem dQ23_94 : decode jdk_42_method_150_code 94 = .ok (.putfield 9, 3) := by decide +kernel
theorem dQ23_97 : decode jdk_42_method_150_code 97 = .ok (.return_, 1) := by decide +kernel
theorem dQ24_0 : decode jdk_68_method_64_code 0 = .ok (.aload_n 0, 1) := by decide +kernel
theorem dQ24_1 : decode jdk_68_method_64_code 1 = .ok (.getfield 15, 3) := by decide +kernel
theorem dQ24_4 : decode jdk_68_method_64_code 4 = .ok (.areturn, 1) := by decide +kernel
theorem dQ25_0 : decode jdk_67_method_93_code 0 = .ok (.aload_n 0, 1) := by decide +kernel
theorem dQ25_1 : decode jdk_67_method_93_code 1 = .ok (.invokespecial 343, 3) := by decide +kernel
theorem dQ25_4 : decode jdk_67_method_93_code 4 = .ok (.ireturn, 1) := by decide +kernel
theorem dQ26_0 : decode jdk_68_method_6_code 0 = .ok (.aload_n 0, 1) := by decide +kernel
theorem dQ26_1 : decode jdk_68_method_6_code 1 = .ok (.getfield 79, 3) := by decide +kernel
theorem dQ26_4 : decode jdk_68_method_6_code 4 = .ok (.ireturn, 1) := by decide +kernel
theorem dQ27_0 : decode jdk_68_method_68_code 0 = .ok (.getstatic 18, 3) := by decide +kernel
theorem dQ27_3 : decode jdk_68_method_68_code 3 = .ok (.ifCond .eq 14, 3) := by decide +kernel
theorem dQ27_6 : decode jdk_68_method_68_code 6 = .ok (.aload_n 0, 1) := by decide +kernel
theorem dQ27_7 : decode jdk_68_method_68_code 7 = .ok (.getfield 22, 3) := by decide +kernel
theorem dQ27_10 : decode jdk_68_method_68_code 10 = .ok (.ifCond .ne 7, 3) := by decide +kernel
theorem dQ27_13 : decode jdk_68_method_68_code 13 = .ok (.iconst 1, 1) := by decide +kernel
theorem dQ27_14 : decode jdk_68_method_68_code 14 = .ok (.goto 4, 3) := by decide +kernel
theorem dQ27_17 : decode jdk_68_method_68_code 17 = .ok (.iconst 0, 1) := by decide +kernel
theorem dQ27_18 : decode jdk_68_method_68_code 18 = .ok (.ireturn, 1) := by decide +kernel
theorem dQ28_0 : decode jdk_65_method_132_code 0 = .ok (.iload_n 1, 1) := by decide +kernel
theorem dQ28_1 : decode jdk_65_method_132_code 1 = .ok (.ifCond .ne 9, 3) := by decide +kernel
theorem dQ28_4 : decode jdk_65_method_132_code 4 = .ok (.iload_n 2, 1) := by decide +kernel
theorem dQ28_5 : decode jdk_65_method_132_code 5 = .ok (.aload_n 0, 1) := by decide +kernel
theorem dQ28_6 : decode jdk_65_method_132_code 6 = .ok (.arraylength, 1) := by decide +kernel
theorem dQ28_7 : decode jdk_65_method_132_code 7 = .ok (.if_icmp .eq 10, 3) := by decide +kernel
theorem dQ28_10 : decode jdk_65_method_132_code 10 = .ok (.aload_n 0, 1) := by decide +kernel
theorem dQ28_11 : decode jdk_65_method_132_code 11 = .ok (.iload_n 1, 1) := by decide +kernel
theorem dQ28_12 : decode jdk_65_method_132_code 12 = .ok (.iload_n 2, 1) := by decide +kernel
theorem dQ28_13 : decode jdk_65_method_132_code 13 = .ok (.invokestatic 339, 3) := by decide +kernel
theorem dQ28_16 : decode jdk_65_method_132_code 16 = .ok (.areturn, 1) := by decide +kernel
theorem dQ28_17 : decode jdk_65_method_132_code 17 = .ok (.aload_n 0, 1) := by decide +kernel
theorem dQ28_18 : decode jdk_65_method_132_code 18 = .ok (.invokevirtual 310, 3) := by decide +kernel
theorem dQ28_21 : decode jdk_65_method_132_code 21 = .ok (.checkcast 311, 3) := by decide +kernel
theorem dQ28_24 : decode jdk_65_method_132_code 24 = .ok (.areturn, 1) := by decide +kernel
theorem dQ29_0 : decode jdk_42_method_152_code 0 = .ok (.getstatic 38, 3) := by decide +kernel
theorem dQ29_3 : decode jdk_42_method_152_code 3 = .ok (.ifCond .eq 10, 3) := by decide +kernel
theorem dQ29_6 : decode jdk_42_method_152_code 6 = .ok (.aload_n 0, 1) := by decide +kernel
theorem dQ29_7 : decode jdk_42_method_152_code 7 = .ok (.getfield 15, 3) := by decide +kernel
theorem dQ29_10 : decode jdk_42_method_152_code 10 = .ok (.goto 4, 3) := by decide +kernel
theorem dQ29_13 : decode jdk_42_method_152_code 13 = .ok (.iconst 1, 1) := by decide +kernel
theorem dQ29_14 : decode jdk_42_method_152_code 14 = .ok (.ireturn, 1) := by decide +kernel
theorem dQ30_0 : decode jdk_42_method_54_code 0 = .ok (.aload_n 0, 1) := by decide +kernel
theorem dQ30_1 : decode jdk_42_method_54_code 1 = .ok (.getfield 9, 3) := by decide +kernel
theorem dQ30_4 : decode jdk_42_method_54_code 4 = .ok (.arraylength, 1) := by decide +kernel
theorem dQ30_5 : decode jdk_42_method_54_code 5 = .ok (.aload_n 0, 1) := by decide +kernel
theorem dQ30_6 : decode jdk_42_method_54_code 6 = .ok (.invokevirtual 335, 3) := by decide +kernel
theorem dQ30_9 : decode jdk_42_method_54_code 9 = .ok (.ishr, 1) := by decide +kernel
theorem dQ30_10 : decode jdk_42_method_54_code 10 = .ok (.ireturn, 1) := by decide +kernel
theorem pd__I_C : parseMethodDescriptor "(I)C" = some ⟨[.int], (some .char)⟩ := by decide +kernel
theorem pd__Ljava_lang_String_Ljava_lang_String_Ljava_lang_String__Lcom_example_shardwright_shardwright_CommandException_ : parseMethodDescriptor "(Ljava/lang/String;Ljava/lang/String;Ljava/lang/String;)Lcom/example/shardwright/shardwright/CommandException;" = some ⟨[(.object "java/lang/String"), (.object "java/lang/String"), (.object "java/lang/String")], (some (.object "com/example/shardwright/shardwright/CommandException"))⟩ := by decide +kernel
theorem pd__Ljava_lang_String__Lcom_example_shardwright_shardwright_CommandException_ : parseMethodDescriptor "(Ljava/lang/String;)Lcom/example/shardwright/shardwright/CommandException;" = some ⟨[(.object "java/lang/String")], (some (.object "com/example/shardwright/shardwright/CommandException"))⟩ := by decide +kernel
theorem pd__IZLjava_lang_String__V : parseMethodDescriptor "(IZLjava/lang/String;)V" = some ⟨[.int, .boolean, (.object "java/lang/String")], none⟩ := by decide +kernel
theorem pd___I : parseMethodDescriptor "()I" = some ⟨[], (some .int)⟩ := by decide +kernel
theorem pd___Z : parseMethodDescriptor "()Z" = some ⟨[], (some .boolean)⟩ := by decide +kernel
theorem pd___Ljava_lang_String_ : parseMethodDescriptor "()Ljava/lang/String;" = some ⟨[], (some (.object "java/lang/String"))⟩ := by decide +kernel
theorem pd___V : parseMethodDescriptor "()V" = some ⟨[], none⟩ := by decide +kernel
theorem pd__I_V : parseMethodDescriptor "(I)V" = some ⟨[.int], none⟩ := by decide +kernel
theorem pd__Ljava_lang_String__Ljava_lang_StringBuilder_ : parseMethodDescriptor "(Ljava/lang/String;)Ljava/lang/StringBuilder;" = some ⟨[(.object "java/lang/String")], (some (.object "java/lang/StringBuilder"))⟩ := by decide +kernel
theorem pd__Ljava_lang_String__Ljava_lang_AbstractStringBuilder_ : parseMethodDescriptor "(Ljava/lang/String;)Ljava/lang/AbstractStringBuilder;" = some ⟨[(.object "java/lang/String")], (some (.object "java/lang/AbstractStringBuilder"))⟩ := by decide +kernel
theorem pd__ILjava_lang_String__V : parseMethodDescriptor "(ILjava/lang/String;)V" = some ⟨[.int, (.object "java/lang/String")], none⟩ := by decide +kernel
theorem pd__Ljava_lang_String__V : parseMethodDescriptor "(Ljava/lang/String;)V" = some ⟨[(.object "java/lang/String")], none⟩ := by decide +kernel
theorem pd___BIB_V : parseMethodDescriptor "([BIB)V" = some ⟨[(.array .byte), .int, .byte], none⟩ := by decide +kernel
theorem pd__I_I : parseMethodDescriptor "(I)I" = some ⟨[.int], (some .int)⟩ := by decide +kernel
theorem pd__III_I : parseMethodDescriptor "(III)I" = some ⟨[.int, .int, .int], (some .int)⟩ := by decide +kernel
theorem pd__II_I : parseMethodDescriptor "(II)I" = some ⟨[.int, .int], (some .int)⟩ := by decide +kernel
theorem pd___BI__B : parseMethodDescriptor "([BI)[B" = some ⟨[(.array .byte), .int], (some (.array .byte))⟩ := by decide +kernel
theorem pd__Ljava_lang_StringBuilder__V : parseMethodDescriptor "(Ljava/lang/StringBuilder;)V" = some ⟨[(.object "java/lang/StringBuilder")], none⟩ := by decide +kernel
theorem pd__Ljava_lang_AbstractStringBuilder_Ljava_lang_Void__V : parseMethodDescriptor "(Ljava/lang/AbstractStringBuilder;Ljava/lang/Void;)V" = some ⟨[(.object "java/lang/AbstractStringBuilder"), (.object "java/lang/Void")], none⟩ := by decide +kernel
theorem pd____B : parseMethodDescriptor "()[B" = some ⟨[], (some (.array .byte))⟩ := by decide +kernel
theorem pd___BII__B : parseMethodDescriptor "([BII)[B" = some ⟨[(.array .byte), .int, .int], (some (.array .byte))⟩ := by decide +kernel
theorem pd___B : parseMethodDescriptor "()B" = some ⟨[], (some .byte)⟩ := by decide +kernel
theorem pd__Ljava_lang_Object__Z : parseMethodDescriptor "(Ljava/lang/Object;)Z" = some ⟨[(.object "java/lang/Object")], (some .boolean)⟩ := by decide +kernel
theorem pn_com_example_shardwright_shardwright_CommandExceptionMisfitPinLaw : plainName "com/example/shardwright/shardwright/CommandExceptionMisfitPinLaw" = true := by first | (simp [plainName, overriddenIn]; done) | decide +kernel
set_option maxRecDepth 65536 in
set_option maxHeartbeats 4000000 in
theorem con_lo (l : Launch) (Z : State) (a0 : Array Value) (hw : ∀ d ∈ tables_1, d.before a0 Z = true) (hEL : EW Z a0 consts_1) (x : Int32) (h0 : Heap) :
    Ocon l Z consts_1 (⟨"com/example/shardwright/shardwright/CommandExceptionMisfitPinLaw", "lo", "(I)C"⟩ : MethodName) method_2_code 1 (some .char) [] ({ frames := 0, cells := 0, slots := 0, locals := 0 } : Room) #[(.int x)] h0 [] [] (fun v h _ => v = some (.int (x &&& (255 : Int32))) ∧ h0 = h) := by
  refine own_con (a0 := a0) hEL (plainFor_of_name pn_com_example_shardwright_shardwright_CommandExceptionMisfitPinLaw) ?_
  intro p e s m below meth c T hs W0
  have ef : entryFrame m #[(.int x)] 1 = mkF m 0 #[.val (.int x)] [] := own_entry m [(.int x)] 1 (by simp [Value.category]) rfl
  rw [ef]
  refine g_iloadN W0 dQ0_0 (pc' := 1) rfl rfl ?_
  refine g_sipush W0 dQ0_1 (pc' := 4) rfl (v := 255) rfl ?_
  refine g_iand W0 dQ0_4 (pc' := 5) rfl ?_
  refine g_i2c W0 dQ0_5 (pc' := 6) rfl ?_
  rw [i2c_mask]
  exact g_iret W0 dQ0_6 rfl (Or.inr (Or.inr (Or.inr (Or.inl rfl)))) (StrChars.narrow_ch (own_b255 _).1 (fun q => (own_b255 _).2 (Int32.lt_trans (by decide) q))) ⟨rfl, rfl⟩
set_option maxRecDepth 65536 in
set_option maxHeartbeats 4000000 in
theorem con_hi (l : Launch) (Z : State) (a0 : Array Value) (hw : ∀ d ∈ tables_1, d.before a0 Z = true) (hEL : EW Z a0 consts_1) (x : Int32) (h0 : Heap) :
    Ocon l Z consts_1 (⟨"com/example/shardwright/shardwright/CommandExceptionMisfitPinLaw", "hi", "(I)C"⟩ : MethodName) method_3_code 1 (some .char) [] ({ frames := 0, cells := 0, slots := 0, locals := 0 } : Room) #[(.int x)] h0 [] [] (fun v h _ => v = some (.int ((XT.ushr x (8 : Int32)) &&& (255 : Int32))) ∧ h0 = h) := by
  refine own_con (a0 := a0) hEL (plainFor_of_name pn_com_example_shardwright_shardwright_CommandExceptionMisfitPinLaw) ?_
  intro p e s m below meth c T hs W0
  have ef : entryFrame m #[(.int x)] 1 = mkF m 0 #[.val (.int x)] [] := own_entry m [(.int x)] 1 (by simp [Value.category]) rfl
  rw [ef]
  refine g_iloadN W0 dQ1_0 (pc' := 1) rfl rfl ?_
  refine g_bipush W0 dQ1_1 (pc' := 3) rfl (v := 8) rfl ?_
  refine g_iushr W0 dQ1_3 (pc' := 4) rfl ?_
  refine g_sipush W0 dQ1_4 (pc' := 7) rfl (v := 255) rfl ?_
  refine g_iand W0 dQ1_7 (pc' := 8) rfl ?_
  refine g_i2c W0 dQ1_8 (pc' := 9) rfl ?_
  rw [i2c_mask]
  exact g_iret W0 dQ1_9 rfl (Or.inr (Or.inr (Or.inr (Or.inl rfl)))) (StrChars.narrow_ch (own_b255 _).1 (fun q => (own_b255 _).2 (Int32.lt_trans (by decide) q))) ⟨rfl, rfl⟩
set_option maxRecDepth 65536 in
set_option maxHeartbeats 4000000 in
theorem con_coder (l : Launch) (Z : State) (a0 : Array Value) (hw : ∀ d ∈ tables_1, d.before a0 Z = true) (hEL : EW Z a0 consts_1) (x : Addr) (zc : Int32) (SC : Sta Z Z.heap "java/lang/String" "COMPACT_STRINGS" "Z" (.int zc)) (hzc : ¬ zc = 0) (h0 : Heap) (O : Ext Z.heap h0) (FC : Fld Z h0 x "java/lang/String" "coder" "B" (.int 0)) :
    Ocon l Z consts_1 (⟨"java/lang/String", "coder", "()B"⟩ : MethodName) jdk_42_method_152_code 1 (some .byte) [] ({ frames := 0, cells := 0, slots := 0, locals := 0 } : Room) #[(.ref x)] h0 [] [] (fun v h _ => v = some (.int 0) ∧ h0 = h) := by
  refine own_con (a0 := a0) hEL (plainFor_of_name pn_java_lang_String) ?_
  intro p e s m below meth c T hs W0
  have ef : entryFrame m #[(.ref x)] 1 = mkF m 0 #[.val (.ref x)] [] := own_entry m [(.ref x)] 1 (by simp [Value.category]) rfl
  rw [ef]
  refine g_getS W0 dQ29_0 (pc' := 3) rfl (hw _ (List.mem_of_getElem? (i := 21) rfl)) (SC.ext O) ?_
  intro T56 W55
  refine g_ifN W55 dQ29_3 (pc' := 6) (feq hzc).1 rfl ?_
  refine g_aloadN W55 dQ29_6 (pc' := 7) rfl rfl rfl ?_
  refine g_getF W55 dQ29_7 (pc' := 10) rfl (hw _ (List.mem_of_getElem? (i := 33) rfl)) FC ?_
  intro T58 W57
  refine g_goto W57 dQ29_10 (pc' := 14) (by decide) (by decide) ?_
  exact g_iret W57 dQ29_14 rfl (Or.inr (Or.inr (Or.inl rfl))) rfl ⟨rfl, rfl⟩
set_option maxRecDepth 65536 in
set_option maxHeartbeats 4000000 in
theorem con_len (l : Launch) (Z : State) (a0 : Array Value) (hw : ∀ d ∈ tables_1, d.before a0 Z = true) (hEL : EW Z a0 consts_1) (x : Addr) (cs : List Int32) (zc : Int32) (SC : Sta Z Z.heap "java/lang/String" "COMPACT_STRINGS" "Z" (.int zc)) (hzc : ¬ zc = 0) (h0 : Heap) (O : Ext Z.heap h0) (S : OLat Z h0 x cs) :
    Ocon l Z consts_1 (⟨"java/lang/String", "length", "()I"⟩ : MethodName) jdk_42_method_54_code 1 (some .int) [] ({ frames := 1, cells := 0, slots := 0, locals := 13 } : Room) #[(.ref x)] h0 [] [] (fun v h _ => v = some (.int (Int32.ofNat cs.length)) ∧ h0 = h) := by
  refine own_con (a0 := a0) hEL (plainFor_of_name pn_java_lang_String) ?_
  intro p e s m below meth c T hs W0
  have ef : entryFrame m #[(.ref x)] 1 = mkF m 0 #[.val (.ref x)] [] := own_entry m [(.ref x)] 1 (by simp [Value.category]) rfl
  rw [ef]
  obtain ⟨sE, sB, t, kb, sV, sC, sA⟩ := id S
  refine g_aloadN W0 dQ30_0 (pc' := 1) rfl rfl rfl ?_
  refine g_getF W0 dQ30_1 (pc' := 4) rfl (hw _ (List.mem_of_getElem? (i := 35) rfl)) sV ?_
  intro T60 W59
  refine g_alen W59 dQ30_4 (pc' := 5) rfl sA ?_
  refine g_aloadN W59 dQ30_5 (pc' := 6) rfl rfl rfl ?_
  refine g_virtual W59 dQ30_6 (pc' := 9) (C := "java/lang/String") rfl (hw _ (List.mem_of_getElem? (i := 74) rfl)) (hw _ (List.mem_of_getElem? (i := 75) rfl)) (y7 := (⟨"java/lang/String", "length", "()I"⟩ : MethodName)) rfl (hw _ (List.mem_of_getElem? (i := 72) rfl)) (hw _ (List.mem_of_getElem? (i := 77) rfl)) (hw _ (List.mem_of_getElem? (i := 76) rfl)) (hw _ (List.mem_of_getElem? (i := 9) rfl)) (hw _ (List.mem_of_getElem? (i := 78) rfl)) (by decide) sE (con_coder l Z a0 hw hEL x zc SC hzc h0 O sC) pd___B (argsL := []) (st := [(.int (Int32.ofNat cs.length))]) rfl rfl rfl rfl (by decide) (w := 1) (Nat.le_of_eq rfl) (by decide) (by decide) (by decide) (by simp) (fun q hq => nomatch hq) ?_
  intro v61 T62 h63 S66 q64 W67
  have W65 := W67.sf (SF' := []) (fun _ hx => List.mem_append_right _ hx)
  obtain ⟨rfl, rfl⟩ := q64
  refine g_ishr W65 dQ30_9 (pc' := 10) rfl ?_
  rw [StrChars.shr0]
  exact g_iret W65 dQ30_10 rfl (Or.inl rfl) rfl ⟨rfl, rfl⟩
set_option maxRecDepth 65536 in
set_option maxHeartbeats 4000000 in
theorem con_max (l : Launch) (Z : State) (a0 : Array Value) (hw : ∀ d ∈ tables_1, d.before a0 Z = true) (hEL : EW Z a0 consts_1) (h0 : Heap) :
    Ocon l Z consts_1 (⟨"java/lang/Math", "max", "(II)I"⟩ : MethodName) jdk_29_method_65_code 2 (some .int) [] ({ frames := 0, cells := 0, slots := 0, locals := 0 } : Room) #[(.int (8 : Int32)), (.int (18 : Int32))] h0 [] [] (fun v h _ => v = some (.int 18) ∧ h0 = h) := by
  refine own_con (a0 := a0) hEL (Jvm.Free.JP.mathPlain rfl (by decide)) ?_
  intro p e s m below meth c T hs W0
  have ef : entryFrame m #[(.int (8 : Int32)), (.int (18 : Int32))] 2 = mkF m 0 #[.val (.int (8 : Int32)), .val (.int (18 : Int32))] [] := own_entry m [(.int (8 : Int32)), (.int (18 : Int32))] 2 (by simp [Value.category]) rfl
  rw [ef]
  refine g_iloadN W0 dQ18_0 (pc' := 1) rfl rfl ?_
  refine g_iloadN W0 dQ18_1 (pc' := 2) rfl rfl ?_
  refine g_icY W0 dQ18_2 (pc' := 9) (tlt (by decide : (8 : Int32) < (18 : Int32))).1 (by decide) (by decide) ?_
  refine g_iloadN W0 dQ18_9 (pc' := 10) rfl rfl ?_
  exact g_iret W0 dQ18_10 rfl (Or.inl rfl) rfl ⟨rfl, rfl⟩
set_option maxRecDepth 65536 in
set_option maxHeartbeats 4000000 in
theorem con_min (l : Launch) (Z : State) (a0 : Array Value) (hw : ∀ d ∈ tables_1, d.before a0 Z = true) (hEL : EW Z a0 consts_1) (h0 : Heap) :
    Ocon l Z consts_1 (⟨"java/lang/Math", "min", "(II)I"⟩ : MethodName) jdk_29_method_69_code 2 (some .int) [] ({ frames := 0, cells := 0, slots := 0, locals := 0 } : Room) #[(.int (16 : Int32)), (.int (34 : Int32))] h0 [] [] (fun v h _ => v = some (.int 16) ∧ h0 = h) := by
  refine own_con (a0 := a0) hEL (Jvm.Free.JP.mathPlain rfl (by decide)) ?_
  intro p e s m below meth c T hs W0
  have ef : entryFrame m #[(.int (16 : Int32)), (.int (34 : Int32))] 2 = mkF m 0 #[.val (.int (16 : Int32)), .val (.int (34 : Int32))] [] := own_entry m [(.int (16 : Int32)), (.int (34 : Int32))] 2 (by simp [Value.category]) rfl
  rw [ef]
  refine g_iloadN W0 dQ19_0 (pc' := 1) rfl rfl ?_
  refine g_iloadN W0 dQ19_1 (pc' := 2) rfl rfl ?_
  refine g_icN W0 dQ19_2 (pc' := 5) (flt (by decide : ¬ ((34 : Int32) < (16 : Int32)))).2.2.1 rfl ?_
  refine g_iloadN W0 dQ19_5 (pc' := 6) rfl rfl ?_
  refine g_goto W0 dQ19_6 (pc' := 10) (by decide) (by decide) ?_
  exact g_iret W0 dQ19_10 rfl (Or.inl rfl) rfl ⟨rfl, rfl⟩
theorem pn_jdk_internal_util_ArraysSupport : plainName "jdk/internal/util/ArraysSupport" = true := by first | (simp [plainName, overriddenIn]; done) | decide +kernel
set_option maxRecDepth 65536 in
set_option maxHeartbeats 4000000 in
theorem con_nln (l : Launch) (Z : State) (a0 : Array Value) (hw : ∀ d ∈ tables_1, d.before a0 Z = true) (hEL : EW Z a0 consts_1) (h0 : Heap) :
    Ocon l Z consts_1 (⟨"jdk/internal/util/ArraysSupport", "newLength", "(III)I"⟩ : MethodName) jdk_48_method_27_code 4 (some .int) [] ({ frames := 1, cells := 0, slots := 0, locals := 14 } : Room) #[(.int (16 : Int32)), (.int (8 : Int32)), (.int (18 : Int32))] h0 [] [] (fun v h _ => v = some (.int 34) ∧ h0 = h) := by
  refine own_con (a0 := a0) hEL (plainFor_of_name pn_jdk_internal_util_ArraysSupport) ?_
  intro p e s m below meth c T hs W0
  have ef : entryFrame m #[(.int (16 : Int32)), (.int (8 : Int32)), (.int (18 : Int32))] 4 = mkF m 0 #[.val (.int (16 : Int32)), .val (.int (8 : Int32)), .val (.int (18 : Int32)), .unset] [] := own_entry m [(.int (16 : Int32)), (.int (8 : Int32)), (.int (18 : Int32))] 4 (by simp [Value.category]) rfl
  rw [ef]
  refine g_iloadN W0 dQ17_0 (pc' := 1) rfl rfl ?_
  refine g_iloadN W0 dQ17_1 (pc' := 2) rfl rfl ?_
  refine g_iloadN W0 dQ17_2 (pc' := 3) rfl rfl ?_
  refine g_static W0 dQ17_3 (pc' := 6) rfl (hw _ (List.mem_of_getElem? (i := 118) rfl)) (hw _ (List.mem_of_getElem? (i := 119) rfl)) (hw _ (List.mem_of_getElem? (i := 120) rfl)) (hw _ (List.mem_of_getElem? (i := 121) rfl)) (by decide) (con_max l Z a0 hw hEL h0) pd__II_I (argsL := [(.int (8 : Int32)), (.int (18 : Int32))]) (st := [(.int (16 : Int32))]) rfl rfl rfl rfl (by decide) (w := 1) (Nat.le_of_eq rfl) (by decide) (by decide) (by decide) (by simp) (fun q hq => nomatch hq) ?_
  intro v68 T69 h70 S73 q71 W74
  have W72 := W74.sf (SF' := []) (fun _ hx => List.mem_append_right _ hx)
  obtain ⟨rfl, rfl⟩ := q71
  refine g_iadd W72 dQ17_6 (pc' := 7) rfl ?_
  rw [show ((16 : Int32) + (18 : Int32)) = (34 : Int32) from by decide]
  refine g_istoreN W72 dQ17_7 (pc' := 8) rfl (ls' := #[.val (.int (16 : Int32)), .val (.int (8 : Int32)), .val (.int (18 : Int32)), .val (.int (34 : Int32))]) rfl ?_
  refine g_iconst W72 dQ17_8 (pc' := 9) rfl (v := 0) rfl ?_
  refine g_iloadN W72 dQ17_9 (pc' := 10) rfl rfl ?_
  refine g_icN W72 dQ17_10 (pc' := 13) (tlt (by decide : (0 : Int32) < (34 : Int32))).2.1 rfl ?_
  refine g_iloadN W72 dQ17_13 (pc' := 14) rfl rfl ?_
  refine g_ldcI W72 dQ17_14 (pc' := 16) rfl (hw _ (List.mem_of_getElem? (i := 122) rfl)) ?_
  refine g_icN W72 dQ17_16 (pc' := 19) (flt (by decide : ¬ ((2147483639 : Int32) < (34 : Int32)))).2.2.1 rfl ?_
  refine g_iloadN W72 dQ17_19 (pc' := 20) rfl rfl ?_
  exact g_iret W72 dQ17_20 rfl (Or.inl rfl) rfl ⟨rfl, rfl⟩
theorem pn_java_lang_AbstractStringBuilder : plainName "java/lang/AbstractStringBuilder" = true := by first | (simp [plainName, overriddenIn]; done) | decide +kernel
set_option maxRecDepth 65536 in
set_option maxHeartbeats 4000000 in
theorem con_ncp (l : Launch) (Z : State) (a0 : Array Value) (hw : ∀ d ∈ tables_1, d.before a0 Z = true) (hEL : EW Z a0 consts_1) (x t : Addr) (kb : ClassId) (vs : List Value) (h0 : Heap) (EX : Exa Z h0 x "java/lang/StringBuilder") (FV : Fld Z h0 x "java/lang/AbstractStringBuilder" "value" "[B" (.ref t)) (FD : Fld Z h0 x "java/lang/AbstractStringBuilder" "coder" "B" (.int 0)) (K : Arv Z h0 t kb .byte (16 : Int32) vs (.int 0)) :
    Ocon l Z consts_1 (⟨"java/lang/AbstractStringBuilder", "newCapacity", "(I)I"⟩ : MethodName) jdk_68_method_10_code 6 (some .int) [] ({ frames := 2, cells := 0, slots := 0, locals := 29 } : Room) #[(.ref x), (.int (24 : Int32))] h0 [] [] (fun v h _ => v = some (.int 34) ∧ h0 = h) := by
  refine own_con (a0 := a0) hEL (plainFor_of_name pn_java_lang_AbstractStringBuilder) ?_
  intro p e s m below meth c T hs W0
  have ef : entryFrame m #[(.ref x), (.int (24 : Int32))] 6 = mkF m 0 #[.val (.ref x), .val (.int (24 : Int32)), .unset, .unset, .unset, .unset] [] := own_entry m [(.ref x), (.int (24 : Int32))] 6 (by simp [Value.category]) rfl
  rw [ef]
  refine g_aloadN W0 dQ16_0 (pc' := 1) rfl rfl rfl ?_
  refine g_getF W0 dQ16_1 (pc' := 4) rfl (hw _ (List.mem_of_getElem? (i := 55) rfl)) FV ?_
  intro T76 W75
  refine g_alen W75 dQ16_4 (pc' := 5) rfl K ?_
  refine g_istoreN W75 dQ16_5 (pc' := 6) rfl (ls' := #[.val (.ref x), .val (.int (24 : Int32)), .val (.int (16 : Int32)), .unset, .unset, .unset]) rfl ?_
  refine g_iloadN W75 dQ16_6 (pc' := 7) rfl rfl ?_
  refine g_aloadN W75 dQ16_7 (pc' := 8) rfl rfl rfl ?_
  refine g_getF W75 dQ16_8 (pc' := 11) rfl (hw _ (List.mem_of_getElem? (i := 57) rfl)) FD ?_
  intro T78 W77
  refine g_ishl W77 dQ16_11 (pc' := 12) rfl ?_
  rw [show ((24 : Int32) <<< ((0 : Int32) &&& 31)) = (24 : Int32) from by decide]
  refine g_istoreN W77 dQ16_12 (pc' := 13) rfl (ls' := #[.val (.ref x), .val (.int (24 : Int32)), .val (.int (16 : Int32)), .val (.int (24 : Int32)), .unset, .unset]) rfl ?_
  refine g_iloadN W77 dQ16_13 (pc' := 14) rfl rfl ?_
  refine g_iloadN W77 dQ16_14 (pc' := 15) rfl rfl ?_
  refine g_isub W77 dQ16_15 (pc' := 16) rfl ?_
  rw [show ((24 : Int32) - (16 : Int32)) = (8 : Int32) from by decide]
  refine g_istore W77 dQ16_16 (pc' := 18) rfl (ls' := #[.val (.ref x), .val (.int (24 : Int32)), .val (.int (16 : Int32)), .val (.int (24 : Int32)), .val (.int (8 : Int32)), .unset]) rfl ?_
  refine g_iloadN W77 dQ16_18 (pc' := 19) rfl rfl ?_
  refine g_iload W77 dQ16_19 (pc' := 21) rfl rfl ?_
  refine g_iloadN W77 dQ16_21 (pc' := 22) rfl rfl ?_
  refine g_iconst W77 dQ16_22 (pc' := 23) rfl (v := 2) rfl ?_
  refine g_aloadN W77 dQ16_23 (pc' := 24) rfl rfl rfl ?_
  refine g_getF W77 dQ16_24 (pc' := 27) rfl (hw _ (List.mem_of_getElem? (i := 57) rfl)) FD ?_
  intro T80 W79
  refine g_ishl W79 dQ16_27 (pc' := 28) rfl ?_
  rw [show ((2 : Int32) <<< ((0 : Int32) &&& 31)) = (2 : Int32) from by decide]
  refine g_iadd W79 dQ16_28 (pc' := 29) rfl ?_
  rw [show ((16 : Int32) + (2 : Int32)) = (18 : Int32) from by decide]
  refine g_static W79 dQ16_29 (pc' := 32) rfl (hw _ (List.mem_of_getElem? (i := 114) rfl)) (hw _ (List.mem_of_getElem? (i := 115) rfl)) (hw _ (List.mem_of_getElem? (i := 116) rfl)) (hw _ (List.mem_of_getElem? (i := 117) rfl)) (by decide) (con_nln l Z a0 hw hEL h0) pd__III_I (argsL := [(.int (16 : Int32)), (.int (8 : Int32)), (.int (18 : Int32))]) (st := []) rfl rfl rfl rfl (by decide) (w := 0) (Nat.le_of_eq rfl) (by decide) (by decide) (by decide) (by simp) (fun q hq => nomatch hq) ?_
  intro v81 T82 h83 S86 q84 W87
  have W85 := W87.sf (SF' := []) (fun _ hx => List.mem_append_right _ hx)
  obtain ⟨rfl, rfl⟩ := q84
  refine g_istore W85 dQ16_32 (pc' := 34) rfl (ls' := #[.val (.ref x), .val (.int (24 : Int32)), .val (.int (16 : Int32)), .val (.int (24 : Int32)), .val (.int (8 : Int32)), .val (.int (34 : Int32))]) rfl ?_
  refine g_iload W85 dQ16_34 (pc' := 36) rfl rfl ?_
  refine g_ldcI W85 dQ16_36 (pc' := 38) rfl (hw _ (List.mem_of_getElem? (i := 123) rfl)) ?_
  refine g_icY W85 dQ16_38 (pc' := 51) (feq (by decide : ¬ ((34 : Int32) = (2147483647 : Int32)))).2 (by decide) (by decide) ?_
  refine g_iload W85 dQ16_51 (pc' := 53) rfl rfl ?_
  refine g_aloadN W85 dQ16_53 (pc' := 54) rfl rfl rfl ?_
  refine g_getF W85 dQ16_54 (pc' := 57) rfl (hw _ (List.mem_of_getElem? (i := 57) rfl)) FD ?_
  intro T89 W88
  refine g_ishr W88 dQ16_57 (pc' := 58) rfl ?_
  rw [show ((34 : Int32) >>> ((0 : Int32) &&& 31)) = (34 : Int32) from by decide]
  exact g_iret W88 dQ16_58 rfl (Or.inl rfl) rfl ⟨rfl, rfl⟩
theorem pn_java_util_Arrays : plainName "java/util/Arrays" = true := by first | (simp [plainName, overriddenIn]; done) | decide +kernel
set_option maxRecDepth 65536 in
set_option maxHeartbeats 4000000 in
theorem con_cof (l : Launch) (Z : State) (a0 : Array Value) (hw : ∀ d ∈ tables_1, d.before a0 Z = true) (hEL : EW Z a0 consts_1) (t : Addr) (kb : ClassId) (cs : List Int32) (hl : cs.length ≤ 16) (h0 : Heap) (K : Arv Z h0 t kb .byte (16 : Int32) (own_buf 16 cs) (.int 0)) :
    Ocon l Z consts_1 (⟨"java/util/Arrays", "copyOf", "([BI)[B"⟩ : MethodName) jdk_65_method_121_code 3 (some (.array .byte)) [] ({ frames := 1, cells := 1, slots := 34, locals := 20 } : Room) #[(.ref t), (.int (34 : Int32))] h0 [] [] (fun v h SF => ∃ (t' : Addr) (kb' : ClassId), v = some (.ref t') ∧ Ext h0 h ∧ h0.size ≤ t' ∧ t' ∈ SF ∧ Exa Z h t' "[B" ∧ Arv Z h t' kb' .byte (34 : Int32) (own_buf 34 cs) (.int 0)) := by
  refine own_con (a0 := a0) hEL (plainFor_of_name pn_java_util_Arrays) ?_
  intro p e s m below meth c T hs W0
  have ef : entryFrame m #[(.ref t), (.int (34 : Int32))] 3 = mkF m 0 #[.val (.ref t), .val (.int (34 : Int32)), .unset] [] := own_entry m [(.ref t), (.int (34 : Int32))] 3 (by simp [Value.category]) rfl
  rw [ef]
  refine g_iloadN W0 dQ20_0 (pc' := 1) rfl rfl ?_
  refine g_aloadN W0 dQ20_1 (pc' := 2) rfl rfl rfl ?_
  refine g_alen W0 dQ20_2 (pc' := 3) rfl K ?_
  refine g_icY W0 dQ20_3 (pc' := 14) (feq (by decide : ¬ ((34 : Int32) = (16 : Int32)))).2 (by decide) (by decide) ?_
  refine g_iloadN W0 dQ20_14 (pc' := 15) rfl rfl ?_
  refine g_newPE W0 dQ20_15 (pc' := 17) (cap := 34) rfl (ty := .byte) (dv := .int 0) (ad := "[B") rfl rfl (by decide) (hw _ (List.mem_of_getElem? (i := 26) rfl)) (by decide) (by decide) (by decide) (by decide) (by decide) ?_
  intro T90 h91 cA92 E93 A94 X95 W96
  obtain ⟨a97, g98⟩ : ∃ z, z = h0.size := ⟨_, rfl⟩
  rw [← g98] at A94 X95 W96 ⊢
  have nb : s.heap.size ≤ a97 := by rw [g98, hs]; exact Nat.le_refl _
  refine g_astoreN W96 dQ20_17 (pc' := 18) rfl (ls' := #[.val (.ref t), .val (.int (34 : Int32)), .val (.ref a97)]) rfl rfl ?_
  refine g_aloadN W96 dQ20_18 (pc' := 19) rfl rfl rfl ?_
  refine g_iconst W96 dQ20_19 (pc' := 20) rfl (v := 0) rfl ?_
  refine g_aloadN W96 dQ20_20 (pc' := 21) rfl rfl rfl ?_
  refine g_iconst W96 dQ20_21 (pc' := 22) rfl (v := 0) rfl ?_
  refine g_aloadN W96 dQ20_22 (pc' := 23) rfl rfl rfl ?_
  refine g_alen W96 dQ20_23 (pc' := 24) rfl (K.ext E93) ?_
  refine g_iloadN W96 dQ20_24 (pc' := 25) rfl rfl ?_
  refine g_static W96 dQ20_25 (pc' := 28) rfl (hw _ (List.mem_of_getElem? (i := 128) rfl)) (hw _ (List.mem_of_getElem? (i := 129) rfl)) (hw _ (List.mem_of_getElem? (i := 120) rfl)) (hw _ (List.mem_of_getElem? (i := 130) rfl)) (by decide) (con_min l Z a0 hw hEL h91) pd__II_I (argsL := [(.int (16 : Int32)), (.int (34 : Int32))]) (st := [(.int (0 : Int32)), (.ref a97), (.int (0 : Int32)), (.ref t)]) rfl rfl rfl rfl (by decide) (w := 4) (Nat.le_of_eq rfl) (by decide) (by decide) (by decide) (by simp) (fun q hq => nomatch hq) ?_
  intro v99 T100 h101 S104 q102 W105
  have W103 := W105.sf (SF' := [a97]) (fun _ hx => List.mem_append_right _ hx)
  obtain ⟨rfl, rfl⟩ := q102
  refine g_cpB W103 dQ20_28 (pc' := 31) (n := 16) (n' := 34) (i := 0) (d := 0) (cc := 16) rfl (hw _ (List.mem_of_getElem? (i := 131) rfl)) (hw _ (List.mem_of_getElem? (i := 105) rfl)) (hw _ (List.mem_of_getElem? (i := 103) rfl)) (hw _ (List.mem_of_getElem? (i := 104) rfl)) (K.ext E93) (own_pad0 34 A94) (by decide) (by decide) (by decide) (by decide) (by simp) (by simp) (fun q _ => Or.inr nb) rfl (by decide) (w := 0) (Nat.le_of_eq rfl) (by decide) ?_
  intro T106 h107 k108 A109 W110
  rw [own_grow hl (by decide)] at A109
  have X := own_ext_keep E93 k108 (by intro y hy; rw [List.mem_singleton.mp hy, g98]; exact Nat.le_refl _)
  have XE := X95.keep k108
  refine g_aloadN W110 dQ20_31 (pc' := 32) rfl rfl rfl ?_
  exact g_aret W110 dQ20_32 rfl rfl rfl rfl ⟨a97, _, rfl, X, (by first | exact Nat.le_refl _ | exact Nat.le_of_eq g98.symm), by simp, XE, A109⟩
set_option maxRecDepth 65536 in
set_option maxHeartbeats 4000000 in
theorem con_eci0 (l : Launch) (Z : State) (a0 : Array Value) (hw : ∀ d ∈ tables_1, d.before a0 Z = true) (hEL : EW Z a0 consts_1) (x t : Addr) (kb : ClassId) (vs : List Value) (mn cap : Nat) (h0 : Heap) (EX : Exa Z h0 x "java/lang/StringBuilder") (FV : Fld Z h0 x "java/lang/AbstractStringBuilder" "value" "[B" (.ref t)) (FD : Fld Z h0 x "java/lang/AbstractStringBuilder" "coder" "B" (.int 0)) (K : Arv Z h0 t kb .byte (Int32.ofNat cap) vs (.int 0)) (hm : mn ≤ cap) (hc : cap < 2 ^ 30) :
    Ocon l Z consts_1 (⟨"java/lang/AbstractStringBuilder", "ensureCapacityInternal", "(I)V"⟩ : MethodName) jdk_68_method_9_code 3 none [] ({ frames := 0, cells := 0, slots := 0, locals := 0 } : Room) #[(.ref x), (.int (Int32.ofNat mn))] h0 [] [] (fun v h _ => v = none ∧ h0 = h) := by
  refine own_con (a0 := a0) hEL (plainFor_of_name pn_java_lang_AbstractStringBuilder) ?_
  intro p e s m below meth c T hs W0
  have ef : entryFrame m #[(.ref x), (.int (Int32.ofNat mn))] 3 = mkF m 0 #[.val (.ref x), .val (.int (Int32.ofNat mn)), .unset] [] := own_entry m [(.ref x), (.int (Int32.ofNat mn))] 3 (by simp [Value.category]) rfl
  rw [ef]
  refine g_aloadN W0 dQ12_0 (pc' := 1) rfl rfl rfl ?_
  refine g_getF W0 dQ12_1 (pc' := 4) rfl (hw _ (List.mem_of_getElem? (i := 55) rfl)) FV ?_
  intro T112 W111
  refine g_alen W111 dQ12_4 (pc' := 5) rfl K ?_
  refine g_aloadN W111 dQ12_5 (pc' := 6) rfl rfl rfl ?_
  refine g_getF W111 dQ12_6 (pc' := 9) rfl (hw _ (List.mem_of_getElem? (i := 57) rfl)) FD ?_
  intro T114 W113
  refine g_ishr W113 dQ12_9 (pc' := 10) rfl ?_
  rw [StrChars.shr0]
  refine g_istoreN W113 dQ12_10 (pc' := 11) rfl (ls' := #[.val (.ref x), .val (.int (Int32.ofNat mn)), .val (.int (Int32.ofNat cap))]) rfl ?_
  refine g_iloadN W113 dQ12_11 (pc' := 12) rfl rfl ?_
  refine g_iloadN W113 dQ12_12 (pc' := 13) rfl rfl ?_
  refine g_isub W113 dQ12_13 (pc' := 14) rfl ?_
  refine g_ifY W113 dQ12_14 (pc' := 38) (flt (own_le0 hc hm)).2.2.2 (by decide) (by decide) ?_
  exact g_return W113 dQ12_38 rfl ⟨rfl, rfl⟩
set_option maxRecDepth 65536 in
set_option maxHeartbeats 4000000 in
theorem con_eci1 (l : Launch) (Z : State) (a0 : Array Value) (hw : ∀ d ∈ tables_1, d.before a0 Z = true) (hEL : EW Z a0 consts_1) (x t : Addr) (kb : ClassId) (cs : List Int32) (hl : cs.length ≤ 16) (h0 : Heap) (EX : Exa Z h0 x "java/lang/StringBuilder") (FV : Fld Z h0 x "java/lang/AbstractStringBuilder" "value" "[B" (.ref t)) (FD : Fld Z h0 x "java/lang/AbstractStringBuilder" "coder" "B" (.int 0)) (FN : Fld Z h0 x "java/lang/AbstractStringBuilder" "count" "I" (.int (Int32.ofNat cs.length))) (K : Arv Z h0 t kb .byte (16 : Int32) (own_buf 16 cs) (.int 0)) :
    Ocon l Z consts_1 (⟨"java/lang/AbstractStringBuilder", "ensureCapacityInternal", "(I)V"⟩ : MethodName) jdk_68_method_9_code 3 none [] ({ frames := 3, cells := 1, slots := 34, locals := 48 } : Room) #[(.ref x), (.int (24 : Int32))] h0 [x] [(⟨x, RoadKit.slotOf Z "java/lang/AbstractStringBuilder" "value" "[B"⟩ : Loc)] (fun v h SF => v = none ∧ ∃ (t' : Addr) (kb' : ClassId), Keep h0 h [x] ∧ h0.size ≤ t' ∧ t' ∈ SF ∧ OSb Z h x t' kb' 34 cs) := by
  refine own_con (a0 := a0) hEL (plainFor_of_name pn_java_lang_AbstractStringBuilder) ?_
  intro p e s m below meth c T hs W0
  have ef : entryFrame m #[(.ref x), (.int (24 : Int32))] 3 = mkF m 0 #[.val (.ref x), .val (.int (24 : Int32)), .unset] [] := own_entry m [(.ref x), (.int (24 : Int32))] 3 (by simp [Value.category]) rfl
  rw [ef]
  refine g_aloadN W0 dQ12_0 (pc' := 1) rfl rfl rfl ?_
  refine g_getF W0 dQ12_1 (pc' := 4) rfl (hw _ (List.mem_of_getElem? (i := 55) rfl)) FV ?_
  intro T116 W115
  refine g_alen W115 dQ12_4 (pc' := 5) rfl K ?_
  refine g_aloadN W115 dQ12_5 (pc' := 6) rfl rfl rfl ?_
  refine g_getF W115 dQ12_6 (pc' := 9) rfl (hw _ (List.mem_of_getElem? (i := 57) rfl)) FD ?_
  intro T118 W117
  refine g_ishr W117 dQ12_9 (pc' := 10) rfl ?_
  rw [show ((16 : Int32) >>> ((0 : Int32) &&& 31)) = (16 : Int32) from by decide]
  refine g_istoreN W117 dQ12_10 (pc' := 11) rfl (ls' := #[.val (.ref x), .val (.int (24 : Int32)), .val (.int (16 : Int32))]) rfl ?_
  refine g_iloadN W117 dQ12_11 (pc' := 12) rfl rfl ?_
  refine g_iloadN W117 dQ12_12 (pc' := 13) rfl rfl ?_
  refine g_isub W117 dQ12_13 (pc' := 14) rfl ?_
  rw [show ((24 : Int32) - (16 : Int32)) = (8 : Int32) from by decide]
  refine g_ifN W117 dQ12_14 (pc' := 17) (tlt (by decide : (0 : Int32) < (8 : Int32))).2.2.2 rfl ?_
  refine g_aloadN W117 dQ12_17 (pc' := 18) rfl rfl rfl ?_
  refine g_aloadN W117 dQ12_18 (pc' := 19) rfl rfl rfl ?_
  refine g_getF W117 dQ12_19 (pc' := 22) rfl (hw _ (List.mem_of_getElem? (i := 55) rfl)) FV ?_
  intro T120 W119
  refine g_aloadN W119 dQ12_22 (pc' := 23) rfl rfl rfl ?_
  refine g_iloadN W119 dQ12_23 (pc' := 24) rfl rfl ?_
  refine g_priv W119 dQ12_24 (pc' := 27) (C := "java/lang/StringBuilder") rfl (hw _ (List.mem_of_getElem? (i := 109) rfl)) (hw _ (List.mem_of_getElem? (i := 111) rfl)) (hw _ (List.mem_of_getElem? (i := 112) rfl)) (hw _ (List.mem_of_getElem? (i := 110) rfl)) (hw _ (List.mem_of_getElem? (i := 51) rfl)) (hw _ (List.mem_of_getElem? (i := 113) rfl)) (by decide) EX (con_ncp l Z a0 hw hEL x t kb _ h0 EX FV FD K) pd__I_I (argsL := [(.int (24 : Int32))]) (st := [(.ref t), (.ref x)]) rfl rfl rfl rfl (by decide) (w := 2) (Nat.le_of_eq rfl) (by decide) (by decide) (by decide) (by simp) (fun q hq => nomatch hq) ?_
  intro v121 T122 h123 S126 q124 W127
  have W125 := W127.sf (SF' := [x]) (fun _ hx => List.mem_append_right _ hx)
  obtain ⟨rfl, rfl⟩ := q124
  refine g_aloadN W125 dQ12_27 (pc' := 28) rfl rfl rfl ?_
  refine g_getF W125 dQ12_28 (pc' := 31) rfl (hw _ (List.mem_of_getElem? (i := 57) rfl)) FD ?_
  intro T129 W128
  refine g_ishl W128 dQ12_31 (pc' := 32) rfl ?_
  rw [show ((34 : Int32) <<< ((0 : Int32) &&& 31)) = (34 : Int32) from by decide]
  refine g_static W128 dQ12_32 (pc' := 35) rfl (hw _ (List.mem_of_getElem? (i := 124) rfl)) (hw _ (List.mem_of_getElem? (i := 125) rfl)) (hw _ (List.mem_of_getElem? (i := 126) rfl)) (hw _ (List.mem_of_getElem? (i := 127) rfl)) (by decide) (con_cof l Z a0 hw hEL t kb cs hl h0 K) pd___BI__B (argsL := [(.ref t), (.int (34 : Int32))]) (st := [(.ref x)]) rfl rfl rfl rfl (by decide) (w := 1) (Nat.le_of_eq rfl) (by decide) (by decide) (by decide) (by simp) (fun q hq => nomatch hq) ?_
  intro v130 T131 h132 S135 q133 W136
  obtain ⟨t', kb', rfl, X, nt, tS, XE, A⟩ := q133
  have Wk := W136.sf (SF' := [t', x]) (by intro y hy; simp only [List.mem_cons, List.not_mem_nil, or_false] at hy; rcases hy with rfl | rfl; exact List.mem_append_left _ tS; exact List.mem_append_right _ (by simp))
  refine g_putF Wk dQ12_35 (pc' := 38) rfl (hw _ (List.mem_of_getElem? (i := 55) rfl)) (FV.ext X) (EX.ext X) (Or.inl (hw _ (List.mem_of_getElem? (i := 56) rfl))) (hw _ (List.mem_of_getElem? (i := 42) rfl)) (ty := .array .byte) (by decide) rfl rfl (by simp) (Or.inl (by simp)) ?_
  intro T137 h138 w139 W140
  have hne1 : t' ≠ x := Nat.ne_of_gt (Nat.lt_of_lt_of_le EX.lt nt)
  exact g_return W140 dQ12_38 rfl ⟨rfl, t', kb', (own_keep_ext X).wr w139 (Or.inl (by simp)), nt, by simp, (EX.ext X).wr w139, (FV.ext X).same w139, (FD.ext X).other w139 (Or.inr (slot_ne (t := .byte) (t' := .array .byte) (Or.inl (hw _ (List.mem_of_getElem? (i := 58) rfl))) (Or.inl (hw _ (List.mem_of_getElem? (i := 56) rfl))) (by decide) (by decide) (by decide))), (FN.ext X).other w139 (Or.inr (slot_ne (t := .int) (t' := .array .byte) (Or.inl (hw _ (List.mem_of_getElem? (i := 80) rfl))) (Or.inl (hw _ (List.mem_of_getElem? (i := 56) rfl))) (by decide) (by decide) (by decide))), A.other w139 hne1, XE.wr w139⟩
set_option maxRecDepth 65536 in
set_option maxHeartbeats 4000000 in
theorem con_inf (l : Launch) (Z : State) (a0 : Array Value) (hw : ∀ d ∈ tables_1, d.before a0 Z = true) (hEL : EW Z a0 consts_1) (x y t : Addr) (ds : List Int32) (zc : Int32) (SC : Sta Z Z.heap "java/lang/String" "COMPACT_STRINGS" "Z" (.int zc)) (hzc : ¬ zc = 0) (h0 : Heap) (O : Ext Z.heap h0) (EX : Exa Z h0 x "java/lang/StringBuilder") (FV : Fld Z h0 x "java/lang/AbstractStringBuilder" "value" "[B" (.ref t)) (FD : Fld Z h0 x "java/lang/AbstractStringBuilder" "coder" "B" (.int 0)) (S : OLat Z h0 y ds) :
    Ocon l Z consts_1 (⟨"java/lang/AbstractStringBuilder", "inflateIfNeededFor", "(Ljava/lang/String;)V"⟩ : MethodName) jdk_68_method_71_code 2 none [] ({ frames := 1, cells := 0, slots := 0, locals := 14 } : Room) #[(.ref x), (.ref y)] h0 [] [] (fun v h _ => v = none ∧ h0 = h) := by
  refine own_con (a0 := a0) hEL (plainFor_of_name pn_java_lang_AbstractStringBuilder) ?_
  intro p e s m below meth c T hs W0
  have ef : entryFrame m #[(.ref x), (.ref y)] 2 = mkF m 0 #[.val (.ref x), .val (.ref y)] [] := own_entry m [(.ref x), (.ref y)] 2 (by simp [Value.category]) rfl
  rw [ef]
  obtain ⟨dE, dB, u, ku, dV, dC, dA⟩ := id S
  refine g_getS W0 dQ14_0 (pc' := 3) rfl (hw _ (List.mem_of_getElem? (i := 54) rfl)) (SC.ext O) ?_
  intro T142 W141
  refine g_ifN W141 dQ14_3 (pc' := 6) (feq hzc).1 rfl ?_
  refine g_aloadN W141 dQ14_6 (pc' := 7) rfl rfl rfl ?_
  refine g_getF W141 dQ14_7 (pc' := 10) rfl (hw _ (List.mem_of_getElem? (i := 57) rfl)) FD ?_
  intro T144 W143
  refine g_aloadN W143 dQ14_10 (pc' := 11) rfl rfl rfl ?_
  refine g_virtual W143 dQ14_11 (pc' := 14) (C := "java/lang/String") rfl (hw _ (List.mem_of_getElem? (i := 96) rfl)) (hw _ (List.mem_of_getElem? (i := 75) rfl)) (y7 := (⟨"java/lang/String", "length", "()I"⟩ : MethodName)) rfl (hw _ (List.mem_of_getElem? (i := 72) rfl)) (hw _ (List.mem_of_getElem? (i := 77) rfl)) (hw _ (List.mem_of_getElem? (i := 76) rfl)) (hw _ (List.mem_of_getElem? (i := 9) rfl)) (hw _ (List.mem_of_getElem? (i := 78) rfl)) (by decide) dE (con_coder l Z a0 hw hEL y zc SC hzc h0 O dC) pd___B (argsL := []) (st := [(.int (0 : Int32))]) rfl rfl rfl rfl (by decide) (w := 1) (Nat.le_of_eq rfl) (by decide) (by decide) (by decide) (by simp) (fun q hq => nomatch hq) ?_
  intro v145 T146 h147 S150 q148 W151
  have W149 := W151.sf (SF' := []) (fun _ hx => List.mem_append_right _ hx)
  obtain ⟨rfl, rfl⟩ := q148
  refine g_icY W149 dQ14_14 (pc' := 21) (teq (by decide : (0 : Int32) = (0 : Int32))).1 (by decide) (by decide) ?_
  exact g_return W149 dQ14_21 rfl ⟨rfl, rfl⟩
set_option maxRecDepth 65536 in
set_option maxHeartbeats 4000000 in
theorem con_gby (l : Launch) (Z : State) (a0 : Array Value) (hw : ∀ d ∈ tables_1, d.before a0 Z = true) (hEL : EW Z a0 consts_1) (y t : Addr) (kb : ClassId) (cs ds : List Int32) (cap : Nat) (zc : Int32) (SC : Sta Z Z.heap "java/lang/String" "COMPACT_STRINGS" "Z" (.int zc)) (hzc : ¬ zc = 0) (h0 : Heap) (O : Ext Z.heap h0) (S : OLat Z h0 y ds) (K : Arv Z h0 t kb .byte (Int32.ofNat cap) (own_buf cap cs) (.int 0)) (hc : cs.length + ds.length ≤ cap) (hcap : cap < 2 ^ 29) :
    Ocon l Z consts_1 (⟨"java/lang/String", "getBytes", "([BIB)V"⟩ : MethodName) jdk_42_method_147_code 4 none [] ({ frames := 1, cells := 0, slots := 0, locals := 19 } : Room) #[(.ref y), (.ref t), (.int (Int32.ofNat cs.length)), (.int (0 : Int32))] h0 [t] ((List.range cap).map fun i => (⟨t, i⟩ : Loc)) (fun v h _ => v = none ∧ Keep h0 h [t] ∧ Arv Z h t kb .byte (Int32.ofNat cap) (own_buf cap (cs ++ ds)) (.int 0)) := by
  refine own_con (a0 := a0) hEL (plainFor_of_name pn_java_lang_String) ?_
  intro p e s m below meth c T hs W0
  have ef : entryFrame m #[(.ref y), (.ref t), (.int (Int32.ofNat cs.length)), (.int (0 : Int32))] 4 = mkF m 0 #[.val (.ref y), .val (.ref t), .val (.int (Int32.ofNat cs.length)), .val (.int (0 : Int32))] [] := own_entry m [(.ref y), (.ref t), (.int (Int32.ofNat cs.length)), (.int (0 : Int32))] 4 (by simp [Value.category]) rfl
  rw [ef]
  obtain ⟨dE, dB, u, ku, dV, dC, dA⟩ := id S
  refine g_aloadN W0 dQ15_0 (pc' := 1) rfl rfl rfl ?_
  refine g_virtual W0 dQ15_1 (pc' := 4) (C := "java/lang/String") rfl (hw _ (List.mem_of_getElem? (i := 74) rfl)) (hw _ (List.mem_of_getElem? (i := 75) rfl)) (y7 := (⟨"java/lang/String", "length", "()I"⟩ : MethodName)) rfl (hw _ (List.mem_of_getElem? (i := 72) rfl)) (hw _ (List.mem_of_getElem? (i := 77) rfl)) (hw _ (List.mem_of_getElem? (i := 76) rfl)) (hw _ (List.mem_of_getElem? (i := 9) rfl)) (hw _ (List.mem_of_getElem? (i := 78) rfl)) (by decide) dE (con_coder l Z a0 hw hEL y zc SC hzc h0 O dC) pd___B (argsL := []) (st := []) rfl rfl rfl rfl (by decide) (w := 0) (Nat.le_of_eq rfl) (by decide) (by decide) (by decide) (by simp) (fun q hq => nomatch hq) ?_
  intro v152 T153 h154 S157 q155 W158
  have W156 := W158.sf (SF' := [t]) (fun _ hx => List.mem_append_right _ hx)
  obtain ⟨rfl, rfl⟩ := q155
  refine g_iloadN W156 dQ15_4 (pc' := 5) rfl rfl ?_
  refine g_icN W156 dQ15_5 (pc' := 8) (teq (by decide : (0 : Int32) = (0 : Int32))).2 rfl ?_
  refine g_aloadN W156 dQ15_8 (pc' := 9) rfl rfl rfl ?_
  refine g_getF W156 dQ15_9 (pc' := 12) rfl (hw _ (List.mem_of_getElem? (i := 35) rfl)) dV ?_
  intro T160 W159
  refine g_iconst W159 dQ15_12 (pc' := 13) rfl (v := 0) rfl ?_
  refine g_aloadN W159 dQ15_13 (pc' := 14) rfl rfl rfl ?_
  refine g_iloadN W159 dQ15_14 (pc' := 15) rfl rfl ?_
  refine g_iloadN W159 dQ15_15 (pc' := 16) rfl rfl ?_
  refine g_ishl W159 dQ15_16 (pc' := 17) rfl ?_
  rw [own_shl0]
  refine g_aloadN W159 dQ15_17 (pc' := 18) rfl rfl rfl ?_
  refine g_getF W159 dQ15_18 (pc' := 21) rfl (hw _ (List.mem_of_getElem? (i := 35) rfl)) dV ?_
  intro T162 W161
  refine g_alen W161 dQ15_21 (pc' := 22) rfl dA ?_
  refine g_cpB W161 dQ15_22 (pc' := 25) (i := 0) (d := cs.length) (cc := ds.length) rfl (hw _ (List.mem_of_getElem? (i := 102) rfl)) (hw _ (List.mem_of_getElem? (i := 105) rfl)) (hw _ (List.mem_of_getElem? (i := 103) rfl)) (hw _ (List.mem_of_getElem? (i := 104) rfl)) dA K (by omega) (by omega) (by omega) hc (own_buflen (by omega)) (by simp) (fun q hq => Or.inl (by simp; exact hq)) rfl (by decide) (w := 0) (Nat.le_of_eq rfl) (by decide) ?_
  intro T163 h164 k165 A166 W167
  rw [own_put hc] at A166
  refine g_goto W167 dQ15_25 (pc' := 43) (by decide) (by decide) ?_
  exact g_return W167 dQ15_43 rfl ⟨rfl, k165, A166⟩
set_option maxRecDepth 65536 in
set_option maxHeartbeats 4000000 in
theorem con_psa (l : Launch) (Z : State) (a0 : Array Value) (hw : ∀ d ∈ tables_1, d.before a0 Z = true) (hEL : EW Z a0 consts_1) (x y t : Addr) (kb : ClassId) (cs ds : List Int32) (cap : Nat) (zc : Int32) (SC : Sta Z Z.heap "java/lang/String" "COMPACT_STRINGS" "Z" (.int zc)) (hzc : ¬ zc = 0) (h0 : Heap) (O : Ext Z.heap h0) (EX : Exa Z h0 x "java/lang/StringBuilder") (FV : Fld Z h0 x "java/lang/AbstractStringBuilder" "value" "[B" (.ref t)) (FD : Fld Z h0 x "java/lang/AbstractStringBuilder" "coder" "B" (.int 0)) (S : OLat Z h0 y ds) (K : Arv Z h0 t kb .byte (Int32.ofNat cap) (own_buf cap cs) (.int 0)) (hc : cs.length + ds.length ≤ cap) (hcap : cap < 2 ^ 29) :
    Ocon l Z consts_1 (⟨"java/lang/AbstractStringBuilder", "putStringAt", "(ILjava/lang/String;)V"⟩ : MethodName) jdk_68_method_73_code 3 none [] ({ frames := 2, cells := 0, slots := 0, locals := 34 } : Room) #[(.ref x), (.int (Int32.ofNat cs.length)), (.ref y)] h0 [t] ((List.range cap).map fun i => (⟨t, i⟩ : Loc)) (fun v h _ => v = none ∧ Keep h0 h [t] ∧ Arv Z h t kb .byte (Int32.ofNat cap) (own_buf cap (cs ++ ds)) (.int 0)) := by
  refine own_con (a0 := a0) hEL (plainFor_of_name pn_java_lang_AbstractStringBuilder) ?_
  intro p e s m below meth c T hs W0
  have ef : entryFrame m #[(.ref x), (.int (Int32.ofNat cs.length)), (.ref y)] 3 = mkF m 0 #[.val (.ref x), .val (.int (Int32.ofNat cs.length)), .val (.ref y)] [] := own_entry m [(.ref x), (.int (Int32.ofNat cs.length)), (.ref y)] 3 (by simp [Value.category]) rfl
  rw [ef]
  obtain ⟨dE, dB, u, ku, dV, dC, dA⟩ := id S
  refine g_aloadN W0 dQ13_0 (pc' := 1) rfl rfl rfl ?_
  refine g_aloadN W0 dQ13_1 (pc' := 2) rfl rfl rfl ?_
  refine g_priv W0 dQ13_2 (pc' := 5) (C := "java/lang/StringBuilder") rfl (hw _ (List.mem_of_getElem? (i := 91) rfl)) (hw _ (List.mem_of_getElem? (i := 93) rfl)) (hw _ (List.mem_of_getElem? (i := 94) rfl)) (hw _ (List.mem_of_getElem? (i := 92) rfl)) (hw _ (List.mem_of_getElem? (i := 51) rfl)) (hw _ (List.mem_of_getElem? (i := 95) rfl)) (by decide) EX (con_inf l Z a0 hw hEL x y t ds zc SC hzc h0 O EX FV FD S) pd__Ljava_lang_String__V (argsL := [(.ref y)]) (st := []) rfl rfl rfl rfl (by decide) (w := 0) (Nat.le_of_eq rfl) (by decide) (by decide) (by decide) (by simp) (fun q hq => nomatch hq) ?_
  intro v168 T169 h170 S173 q171 W174
  have W172 := W174.sf (SF' := [t]) (fun _ hx => List.mem_append_right _ hx)
  obtain ⟨rfl, rfl⟩ := q171
  refine g_aloadN W172 dQ13_5 (pc' := 6) rfl rfl rfl ?_
  refine g_aloadN W172 dQ13_6 (pc' := 7) rfl rfl rfl ?_
  refine g_getF W172 dQ13_7 (pc' := 10) rfl (hw _ (List.mem_of_getElem? (i := 55) rfl)) FV ?_
  intro T176 W175
  refine g_iloadN W175 dQ13_10 (pc' := 11) rfl rfl ?_
  refine g_aloadN W175 dQ13_11 (pc' := 12) rfl rfl rfl ?_
  refine g_getF W175 dQ13_12 (pc' := 15) rfl (hw _ (List.mem_of_getElem? (i := 57) rfl)) FD ?_
  intro T178 W177
  refine g_virtual W177 dQ13_15 (pc' := 18) (C := "java/lang/String") rfl (hw _ (List.mem_of_getElem? (i := 97) rfl)) (hw _ (List.mem_of_getElem? (i := 98) rfl)) (y7 := (⟨"java/lang/String", "length", "()I"⟩ : MethodName)) rfl (hw _ (List.mem_of_getElem? (i := 72) rfl)) (hw _ (List.mem_of_getElem? (i := 100) rfl)) (hw _ (List.mem_of_getElem? (i := 99) rfl)) (hw _ (List.mem_of_getElem? (i := 9) rfl)) (hw _ (List.mem_of_getElem? (i := 101) rfl)) (by decide) dE (con_gby l Z a0 hw hEL y t kb cs ds cap zc SC hzc h0 O S K hc hcap) pd___BIB_V (argsL := [(.ref t), (.int (Int32.ofNat cs.length)), (.int (0 : Int32))]) (st := []) rfl rfl rfl rfl (by decide) (w := 0) (Nat.le_of_eq rfl) (by decide) (by decide) (by decide) (by simp) (fun q hq => Or.inl hq) ?_
  intro v179 T180 h181 S184 q182 W185
  have W183 := W185.sf (SF' := [t]) (fun _ hx => List.mem_append_right _ hx)
  obtain ⟨rfl, qK, qA⟩ := q182
  exact g_return W183 dQ13_18 rfl ⟨rfl, qK, qA⟩
set_option maxRecDepth 65536 in
set_option maxHeartbeats 4000000 in
theorem con_abi (l : Launch) (Z : State) (a0 : Array Value) (hw : ∀ d ∈ tables_1, d.before a0 Z = true) (hEL : EW Z a0 consts_1) (x : Addr) (v0 c0 : Value) (zc : Int32) (SC : Sta Z Z.heap "java/lang/String" "COMPACT_STRINGS" "Z" (.int zc)) (hzc : ¬ zc = 0) (h0 : Heap) (O : Ext Z.heap h0) (EX : Exa Z h0 x "java/lang/StringBuilder") (FV : Fld Z h0 x "java/lang/AbstractStringBuilder" "value" "[B" v0) (FD : Fld Z h0 x "java/lang/AbstractStringBuilder" "coder" "B" c0) (FN : Fld Z h0 x "java/lang/AbstractStringBuilder" "count" "I" (.int 0)) :
    Ocon l Z consts_1 (⟨"java/lang/AbstractStringBuilder", "<init>", "(I)V"⟩ : MethodName) jdk_68_method_2_code 2 none [] ({ frames := 1, cells := 1, slots := 16, locals := 12 } : Room) #[(.ref x), (.int (16 : Int32))] h0 [x] [(⟨x, RoadKit.slotOf Z "java/lang/AbstractStringBuilder" "value" "[B"⟩ : Loc), (⟨x, RoadKit.slotOf Z "java/lang/AbstractStringBuilder" "coder" "B"⟩ : Loc)] (fun v h SF => v = none ∧ ∃ (t : Addr) (kb : ClassId), Keep h0 h [x] ∧ h0.size ≤ t ∧ t ∈ SF ∧ OSb Z h x t kb 16 []) := by
  refine own_con (a0 := a0) hEL (plainFor_of_name pn_java_lang_AbstractStringBuilder) ?_
  intro p e s m below meth c T hs W0
  have ef : entryFrame m #[(.ref x), (.int (16 : Int32))] 2 = mkF m 0 #[.val (.ref x), .val (.int (16 : Int32))] [] := own_entry m [(.ref x), (.int (16 : Int32))] 2 (by simp [Value.category]) rfl
  rw [ef]
  refine g_aloadN W0 dQ9_0 (pc' := 1) rfl rfl rfl ?_
  refine g_initO W0 dQ9_1 (pc' := 4) rfl (hw _ (List.mem_of_getElem? (i := 53) rfl)) (hw _ (List.mem_of_getElem? (i := 19) rfl)) (hw _ (List.mem_of_getElem? (i := 20) rfl)) rfl (by decide) (w := 0) (Nat.le_refl _) (by decide) ?_
  intro T186 W187
  refine g_getS W187 dQ9_4 (pc' := 7) rfl (hw _ (List.mem_of_getElem? (i := 54) rfl)) (SC.ext O) ?_
  intro T189 W188
  refine g_ifN W188 dQ9_7 (pc' := 10) (feq hzc).1 rfl ?_
  refine g_aloadN W188 dQ9_10 (pc' := 11) rfl rfl rfl ?_
  refine g_iloadN W188 dQ9_11 (pc' := 12) rfl rfl ?_
  refine g_newPE W188 dQ9_12 (pc' := 14) (cap := 16) rfl (ty := .byte) (dv := .int 0) (ad := "[B") rfl rfl (by decide) (hw _ (List.mem_of_getElem? (i := 26) rfl)) (by decide) (by decide) (by decide) (by decide) (by decide) ?_
  intro T190 h191 cA192 E193 A194 X195 W196
  obtain ⟨a197, g198⟩ : ∃ z, z = h0.size := ⟨_, rfl⟩
  rw [← g198] at A194 X195 W196 ⊢
  have hne1 : a197 ≠ x := Nat.ne_of_gt (by rw [g198]; exact EX.lt)
  refine g_putF W196 dQ9_14 (pc' := 17) rfl (hw _ (List.mem_of_getElem? (i := 55) rfl)) (FV.ext E193) (EX.ext E193) (Or.inl (hw _ (List.mem_of_getElem? (i := 56) rfl))) (hw _ (List.mem_of_getElem? (i := 42) rfl)) (ty := .array .byte) (by decide) rfl rfl (by simp) (Or.inl (by simp)) ?_
  intro T199 h200 w201 W202
  refine g_aloadN W202 dQ9_17 (pc' := 18) rfl rfl rfl ?_
  refine g_iconst W202 dQ9_18 (pc' := 19) rfl (v := 0) rfl ?_
  refine g_putF W202 dQ9_19 (pc' := 22) rfl (hw _ (List.mem_of_getElem? (i := 57) rfl)) ((FD.ext E193).other w201 (Or.inr (slot_ne (t := .byte) (t' := .array .byte) (Or.inl (hw _ (List.mem_of_getElem? (i := 58) rfl))) (Or.inl (hw _ (List.mem_of_getElem? (i := 56) rfl))) (by decide) (by decide) (by decide)))) ((EX.ext E193).wr w201) (Or.inl (hw _ (List.mem_of_getElem? (i := 58) rfl))) (hw _ (List.mem_of_getElem? (i := 42) rfl)) (ty := .byte) (by decide) rfl rfl (by simp) (Or.inl (by simp)) ?_
  intro T203 h204 w205 W206
  refine g_goto W206 dQ9_22 (pc' := 38) (by decide) (by decide) ?_
  exact g_return W206 dQ9_38 rfl ⟨rfl, a197, _, ((own_keep_ext E193).wr w201 (Or.inl (by simp))).wr w205 (Or.inl (by simp)), (by first | exact Nat.le_refl _ | exact Nat.le_of_eq g198.symm), by simp, ((EX.ext E193).wr w201).wr w205, ((FV.ext E193).same w201).other w205 (Or.inr (slot_ne (t := .array .byte) (t' := .byte) (Or.inl (hw _ (List.mem_of_getElem? (i := 56) rfl))) (Or.inl (hw _ (List.mem_of_getElem? (i := 58) rfl))) (by decide) (by decide) (by decide))), ((FD.ext E193).other w201 (Or.inr (slot_ne (t := .byte) (t' := .array .byte) (Or.inl (hw _ (List.mem_of_getElem? (i := 58) rfl))) (Or.inl (hw _ (List.mem_of_getElem? (i := 56) rfl))) (by decide) (by decide) (by decide)))).same w205, ((FN.ext E193).other w201 (Or.inr (slot_ne (t := .int) (t' := .array .byte) (Or.inl (hw _ (List.mem_of_getElem? (i := 80) rfl))) (Or.inl (hw _ (List.mem_of_getElem? (i := 56) rfl))) (by decide) (by decide) (by decide)))).other w205 (Or.inr (slot_ne (t := .int) (t' := .byte) (Or.inl (hw _ (List.mem_of_getElem? (i := 80) rfl))) (Or.inl (hw _ (List.mem_of_getElem? (i := 58) rfl))) (by decide) (by decide) (by decide))), ((own_pad0 16 A194).other w201 hne1).other w205 hne1, (X195.wr w201).wr w205⟩
theorem pn_java_lang_StringBuilder : plainName "java/lang/StringBuilder" = true := by first | (simp [plainName, overriddenIn]; done) | decide +kernel
set_option maxRecDepth 65536 in
set_option maxHeartbeats 4000000 in
theorem con_sbi (l : Launch) (Z : State) (a0 : Array Value) (hw : ∀ d ∈ tables_1, d.before a0 Z = true) (hEL : EW Z a0 consts_1) (x : Addr) (v0 c0 : Value) (zc : Int32) (SC : Sta Z Z.heap "java/lang/String" "COMPACT_STRINGS" "Z" (.int zc)) (hzc : ¬ zc = 0) (h0 : Heap) (O : Ext Z.heap h0) (EX : Exa Z h0 x "java/lang/StringBuilder") (FV : Fld Z h0 x "java/lang/AbstractStringBuilder" "value" "[B" v0) (FD : Fld Z h0 x "java/lang/AbstractStringBuilder" "coder" "B" c0) (FN : Fld Z h0 x "java/lang/AbstractStringBuilder" "count" "I" (.int 0)) :
    Ocon l Z consts_1 (⟨"java/lang/StringBuilder", "<init>", "()V"⟩ : MethodName) jdk_67_method_1_code 1 none [] ({ frames := 2, cells := 1, slots := 16, locals := 26 } : Room) #[(.ref x)] h0 [x] [(⟨x, RoadKit.slotOf Z "java/lang/AbstractStringBuilder" "value" "[B"⟩ : Loc), (⟨x, RoadKit.slotOf Z "java/lang/AbstractStringBuilder" "coder" "B"⟩ : Loc)] (fun v h SF => v = none ∧ ∃ (t : Addr) (kb : ClassId), Keep h0 h [x] ∧ h0.size ≤ t ∧ t ∈ SF ∧ OSb Z h x t kb 16 []) := by
  refine own_con (a0 := a0) hEL (plainFor_of_name pn_java_lang_StringBuilder) ?_
  intro p e s m below meth c T hs W0
  have ef : entryFrame m #[(.ref x)] 1 = mkF m 0 #[.val (.ref x)] [] := own_entry m [(.ref x)] 1 (by simp [Value.category]) rfl
  rw [ef]
  refine g_aloadN W0 dQ8_0 (pc' := 1) rfl rfl rfl ?_
  refine g_bipush W0 dQ8_1 (pc' := 3) rfl (v := 16) rfl ?_
  refine g_special W0 dQ8_3 (pc' := 6) rfl rfl (hw _ (List.mem_of_getElem? (i := 47) rfl)) (hw _ (List.mem_of_getElem? (i := 48) rfl)) (hw _ (List.mem_of_getElem? (i := 51) rfl)) (hw _ (List.mem_of_getElem? (i := 52) rfl)) (by decide) (con_abi l Z a0 hw hEL x v0 c0 zc SC hzc h0 O EX FV FD FN) pd__I_V (argsL := [(.int (16 : Int32))]) (st := []) rfl rfl rfl rfl (by decide) (w := 0) (Nat.le_of_eq rfl) (by decide) (by decide) (by decide) (by simp) (fun q hq => Or.inl hq) ?_
  intro v207 T208 h209 S212 q210 W213
  obtain ⟨rfl, t, kb, qK, nt, tS, qS⟩ := q210
  exact g_return W213 dQ8_6 rfl ⟨rfl, t, kb, qK, nt, List.mem_append_left _ tS, qS⟩
set_option maxRecDepth 65536 in
set_option maxHeartbeats 4000000 in
theorem con_aba0 (l : Launch) (Z : State) (a0 : Array Value) (hw : ∀ d ∈ tables_1, d.before a0 Z = true) (hEL : EW Z a0 consts_1) (x y t : Addr) (kb : ClassId) (cs ds : List Int32) (cap : Nat) (zc : Int32) (SC : Sta Z Z.heap "java/lang/String" "COMPACT_STRINGS" "Z" (.int zc)) (hzc : ¬ zc = 0) (h0 : Heap) (O : Ext Z.heap h0) (S : OLat Z h0 y ds) (SB : OSb Z h0 x t kb cap cs) (hc : cs.length + ds.length ≤ cap) (hcap : cap < 2 ^ 29) :
    Ocon l Z consts_1 (⟨"java/lang/AbstractStringBuilder", "append", "(Ljava/lang/String;)Ljava/lang/AbstractStringBuilder;"⟩ : MethodName) jdk_68_method_22_code 3 (some (.object "java/lang/AbstractStringBuilder")) [] ({ frames := 4, cells := 1, slots := 34, locals := 63 } : Room) #[(.ref x), (.ref y)] h0 [t, x] ([(⟨x, RoadKit.slotOf Z "java/lang/AbstractStringBuilder" "value" "[B"⟩ : Loc), (⟨x, RoadKit.slotOf Z "java/lang/AbstractStringBuilder" "count" "I"⟩ : Loc)] ++ ((List.range cap).map fun i => (⟨t, i⟩ : Loc))) (fun v h SF => v = some (.ref x) ∧ ∃ (t' : Addr) (kb' : ClassId), (t' = t ∨ h0.size ≤ t') ∧ t' ∈ SF ∧ Keep h0 h [x, t] ∧ OSb Z h x t' kb' cap (cs ++ ds)) := by
  refine own_con (a0 := a0) hEL (plainFor_of_name pn_java_lang_AbstractStringBuilder) ?_
  intro p e s m below meth c T hs W0
  have ef : entryFrame m #[(.ref x), (.ref y)] 3 = mkF m 0 #[.val (.ref x), .val (.ref y), .unset] [] := own_entry m [(.ref x), (.ref y)] 3 (by simp [Value.category]) rfl
  rw [ef]
  obtain ⟨EX, FV, FD, FN, K, KE⟩ := id SB
  refine g_aloadN W0 dQ11_0 (pc' := 1) rfl rfl rfl ?_
  refine g_nnY W0 dQ11_1 (pc' := 9) (by decide) (by decide) ?_
  refine g_aloadN W0 dQ11_9 (pc' := 10) rfl rfl rfl ?_
  refine g_virtual W0 dQ11_10 (pc' := 13) (C := "java/lang/String") rfl (hw _ (List.mem_of_getElem? (i := 69) rfl)) (hw _ (List.mem_of_getElem? (i := 70) rfl)) (y7 := (⟨"java/lang/String", "length", "()I"⟩ : MethodName)) rfl (hw _ (List.mem_of_getElem? (i := 72) rfl)) (hw _ (List.mem_of_getElem? (i := 72) rfl)) (hw _ (List.mem_of_getElem? (i := 71) rfl)) (hw _ (List.mem_of_getElem? (i := 9) rfl)) (hw _ (List.mem_of_getElem? (i := 73) rfl)) (by decide) S.1 (con_len l Z a0 hw hEL y ds zc SC hzc h0 O S) pd___I (argsL := []) (st := []) rfl rfl rfl rfl (by decide) (w := 0) (Nat.le_of_eq rfl) (by decide) (by decide) (by decide) (by simp) (fun q hq => nomatch hq) ?_
  intro v214 T215 h216 S219 q217 W220
  have W218 := W220.sf (SF' := [t, x]) (fun _ hx => List.mem_append_right _ hx)
  obtain ⟨rfl, rfl⟩ := q217
  refine g_istoreN W218 dQ11_13 (pc' := 14) rfl (ls' := #[.val (.ref x), .val (.ref y), .val (.int (Int32.ofNat ds.length))]) rfl ?_
  refine g_aloadN W218 dQ11_14 (pc' := 15) rfl rfl rfl ?_
  refine g_aloadN W218 dQ11_15 (pc' := 16) rfl rfl rfl ?_
  refine g_getF W218 dQ11_16 (pc' := 19) rfl (hw _ (List.mem_of_getElem? (i := 79) rfl)) FN ?_
  intro T222 W221
  refine g_iloadN W221 dQ11_19 (pc' := 20) rfl rfl ?_
  refine g_iadd W221 dQ11_20 (pc' := 21) rfl ?_
  rw [own_add]
  refine g_priv W221 dQ11_21 (pc' := 24) (C := "java/lang/StringBuilder") rfl (hw _ (List.mem_of_getElem? (i := 81) rfl)) (hw _ (List.mem_of_getElem? (i := 83) rfl)) (hw _ (List.mem_of_getElem? (i := 84) rfl)) (hw _ (List.mem_of_getElem? (i := 82) rfl)) (hw _ (List.mem_of_getElem? (i := 51) rfl)) (hw _ (List.mem_of_getElem? (i := 85) rfl)) (by decide) EX (con_eci0 l Z a0 hw hEL x t kb _ (cs.length + ds.length) cap h0 EX FV FD K hc (by omega)) pd__I_V (argsL := [(.int (Int32.ofNat (cs.length + ds.length)))]) (st := []) rfl rfl rfl rfl (by decide) (w := 0) (Nat.le_of_eq rfl) (by decide) (by decide) (by decide) (by simp) (fun q hq => nomatch hq) ?_
  intro v223 T224 h225 S228 q226 W229
  have W227 := W229.sf (SF' := [t, x]) (fun _ hx => List.mem_append_right _ hx)
  obtain ⟨rfl, rfl⟩ := q226
  have XR := own_ext_rf h0
  have OQ := O
  have SQ := S
  refine g_aloadN W227 dQ11_24 (pc' := 25) rfl rfl rfl ?_
  refine g_aloadN W227 dQ11_25 (pc' := 26) rfl rfl rfl ?_
  refine g_getF W227 dQ11_26 (pc' := 29) rfl (hw _ (List.mem_of_getElem? (i := 79) rfl)) FN ?_
  intro T231 W230
  refine g_aloadN W230 dQ11_29 (pc' := 30) rfl rfl rfl ?_
  refine g_priv W230 dQ11_30 (pc' := 33) (C := "java/lang/StringBuilder") rfl (hw _ (List.mem_of_getElem? (i := 86) rfl)) (hw _ (List.mem_of_getElem? (i := 88) rfl)) (hw _ (List.mem_of_getElem? (i := 89) rfl)) (hw _ (List.mem_of_getElem? (i := 87) rfl)) (hw _ (List.mem_of_getElem? (i := 51) rfl)) (hw _ (List.mem_of_getElem? (i := 90) rfl)) (by decide) EX (con_psa l Z a0 hw hEL x y t kb cs ds cap zc SC hzc h0 OQ EX FV FD SQ K (by omega) (by omega)) pd__ILjava_lang_String__V (argsL := [(.int (Int32.ofNat cs.length)), (.ref y)]) (st := []) rfl rfl rfl rfl (by decide) (w := 0) (Nat.le_of_eq rfl) (by decide) (by decide) (by decide) (by simp) (fun q hq => Or.inl (List.mem_append_right _ hq)) ?_
  intro v232 T233 h234 S237 q235 W238
  have W236 := W238.sf (SF' := [t, x]) (fun _ hx => List.mem_append_right _ hx)
  obtain ⟨rfl, qK3, qA3⟩ := q235
  have hne3 : x ≠ t := by
    obtain ⟨cl, A1, -⟩ := id K
    exact ne_arr EX (hw _ (List.mem_of_getElem? (i := 42) rfl)) A1
  have n3 : x ∉ [t] := fun q => hne3 (List.mem_singleton.mp q)
  refine g_aloadN W236 dQ11_33 (pc' := 34) rfl rfl rfl ?_
  refine g_dup W236 dQ11_34 (pc' := 35) rfl rfl ?_
  refine g_getF W236 dQ11_35 (pc' := 38) rfl (hw _ (List.mem_of_getElem? (i := 79) rfl)) (FN.keep qK3 n3) ?_
  intro T240 W239
  refine g_iloadN W239 dQ11_38 (pc' := 39) rfl rfl ?_
  refine g_iadd W239 dQ11_39 (pc' := 40) rfl ?_
  rw [own_add]
  refine g_putF W239 dQ11_40 (pc' := 43) rfl (hw _ (List.mem_of_getElem? (i := 79) rfl)) (FN.keep qK3 n3) (EX.keep qK3) (Or.inl (hw _ (List.mem_of_getElem? (i := 80) rfl))) (hw _ (List.mem_of_getElem? (i := 42) rfl)) (ty := .int) (by decide) rfl rfl (by simp) (Or.inl (by simp)) ?_
  intro T241 h242 w243 W244
  refine g_aloadN W244 dQ11_43 (pc' := 44) rfl rfl rfl ?_
  exact g_aret W244 dQ11_44 rfl rfl rfl rfl ⟨rfl, t, kb, Or.inl rfl, by simp, ((Keep.refl h0 [x, t]).trans qK3 (by intro z hz; rw [List.mem_singleton.mp hz]; exact Or.inl (by simp))).wr w243 (Or.inl (by simp)), (EX.keep qK3).wr w243, (FV.keep qK3 n3).other w243 (Or.inr (slot_ne (t := .array .byte) (t' := .int) (Or.inl (hw _ (List.mem_of_getElem? (i := 56) rfl))) (Or.inl (hw _ (List.mem_of_getElem? (i := 80) rfl))) (by decide) (by decide) (by decide))), (FD.keep qK3 n3).other w243 (Or.inr (slot_ne (t := .byte) (t' := .int) (Or.inl (hw _ (List.mem_of_getElem? (i := 58) rfl))) (Or.inl (hw _ (List.mem_of_getElem? (i := 80) rfl))) (by decide) (by decide) (by decide))), (by rw [List.length_append]; exact (FN.keep qK3 n3).same w243), qA3.other w243 (Ne.symm hne3), (KE.keep qK3).wr w243⟩
set_option maxRecDepth 65536 in
set_option maxHeartbeats 4000000 in
theorem con_sba0 (l : Launch) (Z : State) (a0 : Array Value) (hw : ∀ d ∈ tables_1, d.before a0 Z = true) (hEL : EW Z a0 consts_1) (x y t : Addr) (kb : ClassId) (cs ds : List Int32) (cap : Nat) (zc : Int32) (SC : Sta Z Z.heap "java/lang/String" "COMPACT_STRINGS" "Z" (.int zc)) (hzc : ¬ zc = 0) (h0 : Heap) (O : Ext Z.heap h0) (S : OLat Z h0 y ds) (SB : OSb Z h0 x t kb cap cs) (hc : cs.length + ds.length ≤ cap) (hcap : cap < 2 ^ 29) :
    Ocon l Z consts_1 (⟨"java/lang/StringBuilder", "append", "(Ljava/lang/String;)Ljava/lang/StringBuilder;"⟩ : MethodName) jdk_67_method_7_code 2 (some (.object "java/lang/StringBuilder")) [] ({ frames := 5, cells := 1, slots := 34, locals := 78 } : Room) #[(.ref x), (.ref y)] h0 [t, x] ([(⟨x, RoadKit.slotOf Z "java/lang/AbstractStringBuilder" "value" "[B"⟩ : Loc), (⟨x, RoadKit.slotOf Z "java/lang/AbstractStringBuilder" "count" "I"⟩ : Loc)] ++ ((List.range cap).map fun i => (⟨t, i⟩ : Loc))) (fun v h SF => v = some (.ref x) ∧ ∃ (t' : Addr) (kb' : ClassId), (t' = t ∨ h0.size ≤ t') ∧ t' ∈ SF ∧ Keep h0 h [x, t] ∧ OSb Z h x t' kb' cap (cs ++ ds)) := by
  refine own_con (a0 := a0) hEL (plainFor_of_name pn_java_lang_StringBuilder) ?_
  intro p e s m below meth c T hs W0
  have ef : entryFrame m #[(.ref x), (.ref y)] 2 = mkF m 0 #[.val (.ref x), .val (.ref y)] [] := own_entry m [(.ref x), (.ref y)] 2 (by simp [Value.category]) rfl
  rw [ef]
  refine g_aloadN W0 dQ10_0 (pc' := 1) rfl rfl rfl ?_
  refine g_aloadN W0 dQ10_1 (pc' := 2) rfl rfl rfl ?_
  refine g_super W0 dQ10_2 (pc' := 5) (y := (⟨"java/lang/AbstractStringBuilder", "append", "(Ljava/lang/String;)Ljava/lang/AbstractStringBuilder;"⟩ : MethodName)) (y7 := (⟨"java/lang/AbstractStringBuilder", "getValue", "()[B"⟩ : MethodName)) rfl rfl (hw _ (List.mem_of_getElem? (i := 148) rfl)) (by decide) (hw _ (List.mem_of_getElem? (i := 64) rfl)) (hw _ (List.mem_of_getElem? (i := 65) rfl)) (hw _ (List.mem_of_getElem? (i := 66) rfl)) (hw _ (List.mem_of_getElem? (i := 51) rfl)) (hw _ (List.mem_of_getElem? (i := 68) rfl)) (by decide) (Ins.self SB.1) (con_aba0 l Z a0 hw hEL x y t kb cs ds cap zc SC hzc h0 O S SB hc hcap) pd__Ljava_lang_String__Ljava_lang_AbstractStringBuilder_ (argsL := [(.ref y)]) (st := []) rfl rfl rfl rfl (by decide) (w := 0) (Nat.le_of_eq rfl) (by decide) (by decide) (by decide) (fun _ q => q) (fun q hq => Or.inl hq) ?_
  intro v245 T246 h247 S250 q248 W251
  obtain ⟨rfl, t', kb', ht, tS, qK, qS⟩ := q248
  refine g_pop W251 dQ10_5 (pc' := 6) rfl rfl ?_
  refine g_aloadN W251 dQ10_6 (pc' := 7) rfl rfl rfl ?_
  exact g_aret W251 dQ10_7 rfl rfl rfl rfl ⟨rfl, t', kb', ht, List.mem_append_left _ tS, qK, qS⟩
set_option maxRecDepth 65536 in
set_option maxHeartbeats 4000000 in
theorem con_aba1 (l : Launch) (Z : State) (a0 : Array Value) (hw : ∀ d ∈ tables_1, d.before a0 Z = true) (hEL : EW Z a0 consts_1) (x y t : Addr) (kb : ClassId) (cs ds : List Int32)  (zc : Int32) (SC : Sta Z Z.heap "java/lang/String" "COMPACT_STRINGS" "Z" (.int zc)) (hzc : ¬ zc = 0) (h0 : Heap) (O : Ext Z.heap h0) (S : OLat Z h0 y ds) (SB : OSb Z h0 x t kb 16 cs) (hcs : cs.length = 2) (hds : ds.length = 22) (zx : Z.heap.size ≤ x) :
    Ocon l Z consts_1 (⟨"java/lang/AbstractStringBuilder", "append", "(Ljava/lang/String;)Ljava/lang/AbstractStringBuilder;"⟩ : MethodName) jdk_68_method_22_code 3 (some (.object "java/lang/AbstractStringBuilder")) [] ({ frames := 4, cells := 1, slots := 34, locals := 63 } : Room) #[(.ref x), (.ref y)] h0 [x] [(⟨x, RoadKit.slotOf Z "java/lang/AbstractStringBuilder" "value" "[B"⟩ : Loc), (⟨x, RoadKit.slotOf Z "java/lang/AbstractStringBuilder" "count" "I"⟩ : Loc)] (fun v h SF => v = some (.ref x) ∧ ∃ (t' : Addr) (kb' : ClassId), (t' = t ∨ h0.size ≤ t') ∧ t' ∈ SF ∧ Keep h0 h [x, t] ∧ OSb Z h x t' kb' 34 (cs ++ ds)) := by
  refine own_con (a0 := a0) hEL (plainFor_of_name pn_java_lang_AbstractStringBuilder) ?_
  intro p e s m below meth c T hs W0
  have ef : entryFrame m #[(.ref x), (.ref y)] 3 = mkF m 0 #[.val (.ref x), .val (.ref y), .unset] [] := own_entry m [(.ref x), (.ref y)] 3 (by simp [Value.category]) rfl
  rw [ef]
  obtain ⟨EX, FV, FD, FN, K, KE⟩ := id SB
  refine g_aloadN W0 dQ11_0 (pc' := 1) rfl rfl rfl ?_
  refine g_nnY W0 dQ11_1 (pc' := 9) (by decide) (by decide) ?_
  refine g_aloadN W0 dQ11_9 (pc' := 10) rfl rfl rfl ?_
  refine g_virtual W0 dQ11_10 (pc' := 13) (C := "java/lang/String") rfl (hw _ (List.mem_of_getElem? (i := 69) rfl)) (hw _ (List.mem_of_getElem? (i := 70) rfl)) (y7 := (⟨"java/lang/String", "length", "()I"⟩ : MethodName)) rfl (hw _ (List.mem_of_getElem? (i := 72) rfl)) (hw _ (List.mem_of_getElem? (i := 72) rfl)) (hw _ (List.mem_of_getElem? (i := 71) rfl)) (hw _ (List.mem_of_getElem? (i := 9) rfl)) (hw _ (List.mem_of_getElem? (i := 73) rfl)) (by decide) S.1 (con_len l Z a0 hw hEL y ds zc SC hzc h0 O S) pd___I (argsL := []) (st := []) rfl rfl rfl rfl (by decide) (w := 0) (Nat.le_of_eq rfl) (by decide) (by decide) (by decide) (by simp) (fun q hq => nomatch hq) ?_
  intro v252 T253 h254 S257 q255 W258
  have W256 := W258.sf (SF' := [x]) (fun _ hx => List.mem_append_right _ hx)
  obtain ⟨rfl, rfl⟩ := q255
  refine g_istoreN W256 dQ11_13 (pc' := 14) rfl (ls' := #[.val (.ref x), .val (.ref y), .val (.int (Int32.ofNat ds.length))]) rfl ?_
  refine g_aloadN W256 dQ11_14 (pc' := 15) rfl rfl rfl ?_
  refine g_aloadN W256 dQ11_15 (pc' := 16) rfl rfl rfl ?_
  refine g_getF W256 dQ11_16 (pc' := 19) rfl (hw _ (List.mem_of_getElem? (i := 79) rfl)) FN ?_
  intro T260 W259
  refine g_iloadN W259 dQ11_19 (pc' := 20) rfl rfl ?_
  refine g_iadd W259 dQ11_20 (pc' := 21) rfl ?_
  rw [own_add]
  rw [show Int32.ofNat (cs.length + ds.length) = (24 : Int32) from by rw [hcs, hds]; rfl]
  refine g_priv W259 dQ11_21 (pc' := 24) (C := "java/lang/StringBuilder") rfl (hw _ (List.mem_of_getElem? (i := 81) rfl)) (hw _ (List.mem_of_getElem? (i := 83) rfl)) (hw _ (List.mem_of_getElem? (i := 84) rfl)) (hw _ (List.mem_of_getElem? (i := 82) rfl)) (hw _ (List.mem_of_getElem? (i := 51) rfl)) (hw _ (List.mem_of_getElem? (i := 85) rfl)) (by decide) EX (con_eci1 l Z a0 hw hEL x t kb cs (by omega) h0 EX FV FD FN K) pd__I_V (argsL := [(.int (24 : Int32))]) (st := []) rfl rfl rfl rfl (by decide) (w := 0) (Nat.le_of_eq rfl) (by decide) (by decide) (by decide) (by simp) (fun q hq => Or.inl (by rw [List.mem_singleton.mp hq]; simp)) ?_
  intro v261 T262 h263 S266 q264 W267
  obtain ⟨rfl, t2, kb2, qK, nt, tS, EX2, FV2, FD2, FN2, K2, KE2⟩ := q264
  have Wk := W267.sf (SF' := [t2, x]) (by intro y hy; simp only [List.mem_cons, List.not_mem_nil, or_false] at hy; rcases hy with rfl | rfl; exact List.mem_append_left _ tS; exact List.mem_append_right _ (by simp))
  have OQ := own_ext_keep O qK (by intro z hz; rw [List.mem_singleton.mp hz]; exact zx)
  have SQ := S.keepSB qK EX (by decide) (hw _ (List.mem_of_getElem? (i := 42) rfl))
  refine g_aloadN Wk dQ11_24 (pc' := 25) rfl rfl rfl ?_
  refine g_aloadN Wk dQ11_25 (pc' := 26) rfl rfl rfl ?_
  refine g_getF Wk dQ11_26 (pc' := 29) rfl (hw _ (List.mem_of_getElem? (i := 79) rfl)) FN2 ?_
  intro T269 W268
  refine g_aloadN W268 dQ11_29 (pc' := 30) rfl rfl rfl ?_
  refine g_priv W268 dQ11_30 (pc' := 33) (C := "java/lang/StringBuilder") rfl (hw _ (List.mem_of_getElem? (i := 86) rfl)) (hw _ (List.mem_of_getElem? (i := 88) rfl)) (hw _ (List.mem_of_getElem? (i := 89) rfl)) (hw _ (List.mem_of_getElem? (i := 87) rfl)) (hw _ (List.mem_of_getElem? (i := 51) rfl)) (hw _ (List.mem_of_getElem? (i := 90) rfl)) (by decide) EX2 (con_psa l Z a0 hw hEL x y t2 kb2 cs ds 34 zc SC hzc h263 OQ EX2 FV2 FD2 SQ K2 (by omega) (by omega)) pd__ILjava_lang_String__V (argsL := [(.int (Int32.ofNat cs.length)), (.ref y)]) (st := []) rfl rfl rfl rfl (by decide) (w := 0) (Nat.le_of_eq rfl) (by decide) (by decide) (by decide) (by simp) (fun q hq => Or.inr (by obtain ⟨i, -, rfl⟩ := List.mem_map.mp hq; show s.heap.size ≤ t2; rw [hs]; exact nt)) ?_
  intro v270 T271 h272 S275 q273 W276
  have W274 := W276.sf (SF' := [t2, x]) (fun _ hx => List.mem_append_right _ hx)
  obtain ⟨rfl, qK3, qA3⟩ := q273
  have hne3 : x ≠ t2 := by
    obtain ⟨cl, A1, -⟩ := id K2
    exact ne_arr EX2 (hw _ (List.mem_of_getElem? (i := 42) rfl)) A1
  have n3 : x ∉ [t2] := fun q => hne3 (List.mem_singleton.mp q)
  refine g_aloadN W274 dQ11_33 (pc' := 34) rfl rfl rfl ?_
  refine g_dup W274 dQ11_34 (pc' := 35) rfl rfl ?_
  refine g_getF W274 dQ11_35 (pc' := 38) rfl (hw _ (List.mem_of_getElem? (i := 79) rfl)) (FN2.keep qK3 n3) ?_
  intro T278 W277
  refine g_iloadN W277 dQ11_38 (pc' := 39) rfl rfl ?_
  refine g_iadd W277 dQ11_39 (pc' := 40) rfl ?_
  rw [own_add]
  refine g_putF W277 dQ11_40 (pc' := 43) rfl (hw _ (List.mem_of_getElem? (i := 79) rfl)) (FN2.keep qK3 n3) (EX2.keep qK3) (Or.inl (hw _ (List.mem_of_getElem? (i := 80) rfl))) (hw _ (List.mem_of_getElem? (i := 42) rfl)) (ty := .int) (by decide) rfl rfl (by simp) (Or.inl (by simp)) ?_
  intro T279 h280 w281 W282
  refine g_aloadN W282 dQ11_43 (pc' := 44) rfl rfl rfl ?_
  exact g_aret W282 dQ11_44 rfl rfl rfl rfl ⟨rfl, t2, kb2, Or.inr nt, by simp, (((Keep.refl h0 [x, t]).trans qK (by intro z hz; rw [List.mem_singleton.mp hz]; exact Or.inl (by simp))).trans qK3 (by intro z hz; rw [List.mem_singleton.mp hz]; exact Or.inr nt)).wr w281 (Or.inl (by simp)), (EX2.keep qK3).wr w281, (FV2.keep qK3 n3).other w281 (Or.inr (slot_ne (t := .array .byte) (t' := .int) (Or.inl (hw _ (List.mem_of_getElem? (i := 56) rfl))) (Or.inl (hw _ (List.mem_of_getElem? (i := 80) rfl))) (by decide) (by decide) (by decide))), (FD2.keep qK3 n3).other w281 (Or.inr (slot_ne (t := .byte) (t' := .int) (Or.inl (hw _ (List.mem_of_getElem? (i := 58) rfl))) (Or.inl (hw _ (List.mem_of_getElem? (i := 80) rfl))) (by decide) (by decide) (by decide))), (by rw [List.length_append]; exact (FN2.keep qK3 n3).same w281), qA3.other w281 (Ne.symm hne3), (KE2.keep qK3).wr w281⟩
set_option maxRecDepth 65536 in
set_option maxHeartbeats 4000000 in
theorem con_sba1 (l : Launch) (Z : State) (a0 : Array Value) (hw : ∀ d ∈ tables_1, d.before a0 Z = true) (hEL : EW Z a0 consts_1) (x y t : Addr) (kb : ClassId) (cs ds : List Int32)  (zc : Int32) (SC : Sta Z Z.heap "java/lang/String" "COMPACT_STRINGS" "Z" (.int zc)) (hzc : ¬ zc = 0) (h0 : Heap) (O : Ext Z.heap h0) (S : OLat Z h0 y ds) (SB : OSb Z h0 x t kb 16 cs) (hcs : cs.length = 2) (hds : ds.length = 22) (zx : Z.heap.size ≤ x) :
    Ocon l Z consts_1 (⟨"java/lang/StringBuilder", "append", "(Ljava/lang/String;)Ljava/lang/StringBuilder;"⟩ : MethodName) jdk_67_method_7_code 2 (some (.object "java/lang/StringBuilder")) [] ({ frames := 5, cells := 1, slots := 34, locals := 78 } : Room) #[(.ref x), (.ref y)] h0 [x] [(⟨x, RoadKit.slotOf Z "java/lang/AbstractStringBuilder" "value" "[B"⟩ : Loc), (⟨x, RoadKit.slotOf Z "java/lang/AbstractStringBuilder" "count" "I"⟩ : Loc)] (fun v h SF => v = some (.ref x) ∧ ∃ (t' : Addr) (kb' : ClassId), (t' = t ∨ h0.size ≤ t') ∧ t' ∈ SF ∧ Keep h0 h [x, t] ∧ OSb Z h x t' kb' 34 (cs ++ ds)) := by
  refine own_con (a0 := a0) hEL (plainFor_of_name pn_java_lang_StringBuilder) ?_
  intro p e s m below meth c T hs W0
  have ef : entryFrame m #[(.ref x), (.ref y)] 2 = mkF m 0 #[.val (.ref x), .val (.ref y)] [] := own_entry m [(.ref x), (.ref y)] 2 (by simp [Value.category]) rfl
  rw [ef]
  refine g_aloadN W0 dQ10_0 (pc' := 1) rfl rfl rfl ?_
  refine g_aloadN W0 dQ10_1 (pc' := 2) rfl rfl rfl ?_
  refine g_super W0 dQ10_2 (pc' := 5) (y := (⟨"java/lang/AbstractStringBuilder", "append", "(Ljava/lang/String;)Ljava/lang/AbstractStringBuilder;"⟩ : MethodName)) (y7 := (⟨"java/lang/AbstractStringBuilder", "getValue", "()[B"⟩ : MethodName)) rfl rfl (hw _ (List.mem_of_getElem? (i := 148) rfl)) (by decide) (hw _ (List.mem_of_getElem? (i := 64) rfl)) (hw _ (List.mem_of_getElem? (i := 65) rfl)) (hw _ (List.mem_of_getElem? (i := 66) rfl)) (hw _ (List.mem_of_getElem? (i := 51) rfl)) (hw _ (List.mem_of_getElem? (i := 68) rfl)) (by decide) (Ins.self SB.1) (con_aba1 l Z a0 hw hEL x y t kb cs ds zc SC hzc h0 O S SB hcs hds zx) pd__Ljava_lang_String__Ljava_lang_AbstractStringBuilder_ (argsL := [(.ref y)]) (st := []) rfl rfl rfl rfl (by decide) (w := 0) (Nat.le_of_eq rfl) (by decide) (by decide) (by decide) (fun _ q => q) (fun q hq => Or.inl hq) ?_
  intro v283 T284 h285 S288 q286 W289
  obtain ⟨rfl, t', kb', ht, tS, qK, qS⟩ := q286
  refine g_pop W289 dQ10_5 (pc' := 6) rfl rfl ?_
  refine g_aloadN W289 dQ10_6 (pc' := 7) rfl rfl rfl ?_
  exact g_aret W289 dQ10_7 rfl rfl rfl rfl ⟨rfl, t', kb', ht, List.mem_append_left _ tS, qK, qS⟩
set_option maxRecDepth 65536 in
set_option maxHeartbeats 4000000 in
theorem con_gvl (l : Launch) (Z : State) (a0 : Array Value) (hw : ∀ d ∈ tables_1, d.before a0 Z = true) (hEL : EW Z a0 consts_1) (x t : Addr) (h0 : Heap) (EX : Exa Z h0 x "java/lang/StringBuilder") (FV : Fld Z h0 x "java/lang/AbstractStringBuilder" "value" "[B" (.ref t)) (FD : Fld Z h0 x "java/lang/AbstractStringBuilder" "coder" "B" (.int 0)) :
    Ocon l Z consts_1 (⟨"java/lang/AbstractStringBuilder", "getValue", "()[B"⟩ : MethodName) jdk_68_method_64_code 1 (some (.array .byte)) [] ({ frames := 0, cells := 0, slots := 0, locals := 0 } : Room) #[(.ref x)] h0 [] [] (fun v h _ => v = some (.ref t) ∧ h0 = h) := by
  refine own_con (a0 := a0) hEL (plainFor_of_name pn_java_lang_AbstractStringBuilder) ?_
  intro p e s m below meth c T hs W0
  have ef : entryFrame m #[(.ref x)] 1 = mkF m 0 #[.val (.ref x)] [] := own_entry m [(.ref x)] 1 (by simp [Value.category]) rfl
  rw [ef]
  refine g_aloadN W0 dQ24_0 (pc' := 1) rfl rfl rfl ?_
  refine g_getF W0 dQ24_1 (pc' := 4) rfl (hw _ (List.mem_of_getElem? (i := 55) rfl)) FV ?_
  intro T291 W290
  exact g_aret W290 dQ24_4 rfl rfl rfl rfl ⟨rfl, rfl⟩
set_option maxRecDepth 65536 in
set_option maxHeartbeats 4000000 in
theorem con_aln (l : Launch) (Z : State) (a0 : Array Value) (hw : ∀ d ∈ tables_1, d.before a0 Z = true) (hEL : EW Z a0 consts_1) (x : Addr) (N : Int32) (h0 : Heap) (FN : Fld Z h0 x "java/lang/AbstractStringBuilder" "count" "I" (.int N)) :
    Ocon l Z consts_1 (⟨"java/lang/AbstractStringBuilder", "length", "()I"⟩ : MethodName) jdk_68_method_6_code 1 (some .int) [] ({ frames := 0, cells := 0, slots := 0, locals := 0 } : Room) #[(.ref x)] h0 [] [] (fun v h _ => v = some (.int N) ∧ h0 = h) := by
  refine own_con (a0 := a0) hEL (plainFor_of_name pn_java_lang_AbstractStringBuilder) ?_
  intro p e s m below meth c T hs W0
  have ef : entryFrame m #[(.ref x)] 1 = mkF m 0 #[.val (.ref x)] [] := own_entry m [(.ref x)] 1 (by simp [Value.category]) rfl
  rw [ef]
  refine g_aloadN W0 dQ26_0 (pc' := 1) rfl rfl rfl ?_
  refine g_getF W0 dQ26_1 (pc' := 4) rfl (hw _ (List.mem_of_getElem? (i := 79) rfl)) FN ?_
  intro T293 W292
  exact g_iret W292 dQ26_4 rfl (Or.inl rfl) rfl ⟨rfl, rfl⟩
set_option maxRecDepth 65536 in
set_option maxHeartbeats 4000000 in
theorem con_sln (l : Launch) (Z : State) (a0 : Array Value) (hw : ∀ d ∈ tables_1, d.before a0 Z = true) (hEL : EW Z a0 consts_1) (x : Addr) (N : Int32) (h0 : Heap) (EX : Exa Z h0 x "java/lang/StringBuilder") (FN : Fld Z h0 x "java/lang/AbstractStringBuilder" "count" "I" (.int N)) :
    Ocon l Z consts_1 (⟨"java/lang/StringBuilder", "length", "()I"⟩ : MethodName) jdk_67_method_93_code 1 (some .int) [] ({ frames := 1, cells := 0, slots := 0, locals := 12 } : Room) #[(.ref x)] h0 [] [] (fun v h _ => v = some (.int N) ∧ h0 = h) := by
  refine own_con (a0 := a0) hEL (plainFor_of_name pn_java_lang_StringBuilder) ?_
  intro p e s m below meth c T hs W0
  have ef : entryFrame m #[(.ref x)] 1 = mkF m 0 #[.val (.ref x)] [] := own_entry m [(.ref x)] 1 (by simp [Value.category]) rfl
  rw [ef]
  refine g_aloadN W0 dQ25_0 (pc' := 1) rfl rfl rfl ?_
  refine g_super W0 dQ25_1 (pc' := 4) (y := (⟨"java/lang/AbstractStringBuilder", "length", "()I"⟩ : MethodName)) (y7 := (⟨"java/lang/AbstractStringBuilder", "getValue", "()[B"⟩ : MethodName)) rfl rfl (hw _ (List.mem_of_getElem? (i := 148) rfl)) (by decide) (hw _ (List.mem_of_getElem? (i := 156) rfl)) (hw _ (List.mem_of_getElem? (i := 152) rfl)) (hw _ (List.mem_of_getElem? (i := 66) rfl)) (hw _ (List.mem_of_getElem? (i := 51) rfl)) (hw _ (List.mem_of_getElem? (i := 157) rfl)) (by decide) (Ins.self EX) (con_aln l Z a0 hw hEL x N h0 FN) pd___I (argsL := []) (st := []) rfl rfl rfl rfl (by decide) (w := 0) (Nat.le_of_eq rfl) (by decide) (by decide) (by decide) (by simp) (fun q hq => nomatch hq) ?_
  intro v294 T295 h296 S299 q297 W300
  have W298 := W300.sf (SF' := []) (fun _ hx => List.mem_append_right _ hx)
  obtain ⟨rfl, rfl⟩ := q297
  exact g_iret W298 dQ25_4 rfl (Or.inl rfl) rfl ⟨rfl, rfl⟩
set_option maxRecDepth 65536 in
set_option maxHeartbeats 4000000 in
theorem con_ail (l : Launch) (Z : State) (a0 : Array Value) (hw : ∀ d ∈ tables_1, d.before a0 Z = true) (hEL : EW Z a0 consts_1) (x t : Addr) (zc : Int32) (SC : Sta Z Z.heap "java/lang/String" "COMPACT_STRINGS" "Z" (.int zc)) (hzc : ¬ zc = 0) (h0 : Heap) (O : Ext Z.heap h0) (EX : Exa Z h0 x "java/lang/StringBuilder") (FV : Fld Z h0 x "java/lang/AbstractStringBuilder" "value" "[B" (.ref t)) (FD : Fld Z h0 x "java/lang/AbstractStringBuilder" "coder" "B" (.int 0)) :
    Ocon l Z consts_1 (⟨"java/lang/AbstractStringBuilder", "isLatin1", "()Z"⟩ : MethodName) jdk_68_method_68_code 1 (some .boolean) [] ({ frames := 0, cells := 0, slots := 0, locals := 0 } : Room) #[(.ref x)] h0 [] [] (fun v h _ => v = some (.int 1) ∧ h0 = h) := by
  refine own_con (a0 := a0) hEL (plainFor_of_name pn_java_lang_AbstractStringBuilder) ?_
  intro p e s m below meth c T hs W0
  have ef : entryFrame m #[(.ref x)] 1 = mkF m 0 #[.val (.ref x)] [] := own_entry m [(.ref x)] 1 (by simp [Value.category]) rfl
  rw [ef]
  refine g_getS W0 dQ27_0 (pc' := 3) rfl (hw _ (List.mem_of_getElem? (i := 54) rfl)) (SC.ext O) ?_
  intro T302 W301
  refine g_ifN W301 dQ27_3 (pc' := 6) (feq hzc).1 rfl ?_
  refine g_aloadN W301 dQ27_6 (pc' := 7) rfl rfl rfl ?_
  refine g_getF W301 dQ27_7 (pc' := 10) rfl (hw _ (List.mem_of_getElem? (i := 57) rfl)) FD ?_
  intro T304 W303
  refine g_ifN W303 dQ27_10 (pc' := 13) (teq (by decide : (0 : Int32) = (0 : Int32))).2 rfl ?_
  refine g_iconst W303 dQ27_13 (pc' := 14) rfl (v := 1) rfl ?_
  refine g_goto W303 dQ27_14 (pc' := 18) (by decide) (by decide) ?_
  exact g_iret W303 dQ27_18 rfl (Or.inr (Or.inl rfl)) rfl ⟨rfl, rfl⟩
set_option maxRecDepth 65536 in
set_option maxHeartbeats 4000000 in
theorem con_cpr (l : Launch) (Z : State) (a0 : Array Value) (hw : ∀ d ∈ tables_1, d.before a0 Z = true) (hEL : EW Z a0 consts_1) (t : Addr) (kb : ClassId) (vs : List Value) (h0 : Heap) (K : Arv Z h0 t kb .byte (34 : Int32) vs (.int 0)) (KE : Exa Z h0 t "[B") :
    Ocon l Z consts_1 (⟨"java/util/Arrays", "copyOfRange", "([BII)[B"⟩ : MethodName) jdk_65_method_132_code 3 (some (.array .byte)) [] ({ frames := 1, cells := 1, slots := 34, locals := 20 } : Room) #[(.ref t), (.int (0 : Int32)), (.int (34 : Int32))] h0 [] [] (fun v h _ => ∃ (t' : Addr), v = some (.ref t') ∧ Ext h0 h ∧ h0.size ≤ t' ∧ Arv Z h t' kb .byte (34 : Int32) vs (.int 0)) := by
  refine own_con (a0 := a0) hEL (plainFor_of_name pn_java_util_Arrays) ?_
  intro p e s m below meth c T hs W0
  have ef : entryFrame m #[(.ref t), (.int (0 : Int32)), (.int (34 : Int32))] 3 = mkF m 0 #[.val (.ref t), .val (.int (0 : Int32)), .val (.int (34 : Int32))] [] := own_entry m [(.ref t), (.int (0 : Int32)), (.int (34 : Int32))] 3 (by simp [Value.category]) rfl
  rw [ef]
  refine g_iloadN W0 dQ28_0 (pc' := 1) rfl rfl ?_
  refine g_ifN W0 dQ28_1 (pc' := 4) (teq (by decide : (0 : Int32) = (0 : Int32))).2 rfl ?_
  refine g_iloadN W0 dQ28_4 (pc' := 5) rfl rfl ?_
  refine g_aloadN W0 dQ28_5 (pc' := 6) rfl rfl rfl ?_
  refine g_alen W0 dQ28_6 (pc' := 7) rfl K ?_
  refine g_icY W0 dQ28_7 (pc' := 17) (teq (by decide : (34 : Int32) = (34 : Int32))).1 (by decide) (by decide) ?_
  refine g_aloadN W0 dQ28_17 (pc' := 18) rfl rfl rfl ?_
  refine g_clone W0 dQ28_18 (pc' := 21) rfl (hw _ (List.mem_of_getElem? (i := 166) rfl)) (hw _ (List.mem_of_getElem? (i := 167) rfl)) (hw _ (List.mem_of_getElem? (i := 171) rfl)) (hw _ (List.mem_of_getElem? (i := 169) rfl)) (hw _ (List.mem_of_getElem? (i := 170) rfl)) (hw _ (List.mem_of_getElem? (i := 172) rfl)) K KE rfl (by decide) (w := 0) (Nat.le_of_eq rfl) (by decide) (cap := 34) (by decide) (by decide) (by decide) ?_
  intro T305 h306 E307 A308 X309 W310
  obtain ⟨a311, g312⟩ : ∃ z, z = h0.size := ⟨_, rfl⟩
  rw [← g312] at A308 X309 ⊢
  refine g_cast W310 dQ28_21 (pc' := 24) rfl (hw _ (List.mem_of_getElem? (i := 173) rfl)) (Ins.self X309) ?_
  intro T314 W313
  exact g_aret W313 dQ28_24 rfl rfl rfl rfl ⟨a311, rfl, E307, (by first | exact Nat.le_refl _ | exact Nat.le_of_eq g312.symm), A308⟩
set_option maxRecDepth 65536 in
set_option maxHeartbeats 4000000 in
theorem con_si2 (l : Launch) (Z : State) (a0 : Array Value) (hw : ∀ d ∈ tables_1, d.before a0 Z = true) (hEL : EW Z a0 consts_1) (z x t : Addr) (kb : ClassId) (cs : List Int32) (v0 c0 : Value) (zc : Int32) (SC : Sta Z Z.heap "java/lang/String" "COMPACT_STRINGS" "Z" (.int zc)) (hzc : ¬ zc = 0) (h0 : Heap) (O : Ext Z.heap h0) (E : Exa Z h0 z "java/lang/String") (FV0 : Fld Z h0 z "java/lang/String" "value" "[B" v0) (FC0 : Fld Z h0 z "java/lang/String" "coder" "B" c0) (SB : OSb Z h0 x t kb 34 cs) (hl : cs.length = 34) (hb : ∀ c ∈ cs, ¬ c < 0 ∧ ¬ (255 : Int32) < c) :
    Ocon l Z consts_1 (⟨"java/lang/String", "<init>", "(Ljava/lang/AbstractStringBuilder;Ljava/lang/Void;)V"⟩ : MethodName) jdk_42_method_150_code 5 none [] ({ frames := 2, cells := 1, slots := 34, locals := 35 } : Room) #[(.ref z), (.ref x), .null] h0 [z] [(⟨z, RoadKit.slotOf Z "java/lang/String" "coder" "B"⟩ : Loc), (⟨z, RoadKit.slotOf Z "java/lang/String" "value" "[B"⟩ : Loc)] (fun v h _ => v = none ∧ Keep h0 h [z] ∧ OLat Z h z cs) := by
  refine own_con (a0 := a0) hEL (plainFor_of_name pn_java_lang_String) ?_
  intro p e s m below meth c T hs W0
  have ef : entryFrame m #[(.ref z), (.ref x), .null] 5 = mkF m 0 #[.val (.ref z), .val (.ref x), .val .null, .unset, .unset] [] := own_entry m [(.ref z), (.ref x), .null] 5 (by simp [Value.category]) rfl
  rw [ef]
  obtain ⟨EX, FV, FD, FN, K, KE⟩ := id SB
  rw [hl] at FN
  have hsl : RoadKit.slotOf Z "java/lang/String" "value" "[B" ≠ RoadKit.slotOf Z "java/lang/String" "coder" "B" := slot_ne (t := .array .byte) (t' := .byte) (Or.inr (hw _ (List.mem_of_getElem? (i := 36) rfl))) (Or.inr (hw _ (List.mem_of_getElem? (i := 34) rfl))) (by decide) (by decide) (by decide)
  refine g_aloadN W0 dQ23_0 (pc' := 1) rfl rfl rfl ?_
  refine g_initO W0 dQ23_1 (pc' := 4) rfl (hw _ (List.mem_of_getElem? (i := 18) rfl)) (hw _ (List.mem_of_getElem? (i := 19) rfl)) (hw _ (List.mem_of_getElem? (i := 20) rfl)) rfl (by decide) (w := 0) (Nat.le_refl _) (by decide) ?_
  intro T315 W316
  refine g_aloadN W316 dQ23_4 (pc' := 5) rfl rfl rfl ?_
  refine g_virtual W316 dQ23_5 (pc' := 8) (C := "java/lang/StringBuilder") rfl (hw _ (List.mem_of_getElem? (i := 145) rfl)) (hw _ (List.mem_of_getElem? (i := 146) rfl)) (y7 := (⟨"java/lang/AbstractStringBuilder", "getValue", "()[B"⟩ : MethodName)) rfl (hw _ (List.mem_of_getElem? (i := 148) rfl)) (hw _ (List.mem_of_getElem? (i := 148) rfl)) (hw _ (List.mem_of_getElem? (i := 147) rfl)) (hw _ (List.mem_of_getElem? (i := 51) rfl)) (hw _ (List.mem_of_getElem? (i := 149) rfl)) (by decide) EX (con_gvl l Z a0 hw hEL x t h0 EX FV FD) pd____B (argsL := []) (st := []) rfl rfl rfl rfl (by decide) (w := 0) (Nat.le_of_eq rfl) (by decide) (by decide) (by decide) (by simp) (fun q hq => nomatch hq) ?_
  intro v317 T318 h319 S322 q320 W323
  have W321 := W323.sf (SF' := [z]) (fun _ hx => List.mem_append_right _ hx)
  obtain ⟨rfl, rfl⟩ := q320
  refine g_astoreN W321 dQ23_8 (pc' := 9) rfl (ls' := #[.val (.ref z), .val (.ref x), .val .null, .val (.ref t), .unset]) rfl rfl ?_
  refine g_aloadN W321 dQ23_9 (pc' := 10) rfl rfl rfl ?_
  refine g_virtual W321 dQ23_10 (pc' := 13) (C := "java/lang/StringBuilder") rfl (hw _ (List.mem_of_getElem? (i := 150) rfl)) (hw _ (List.mem_of_getElem? (i := 151) rfl)) (y7 := (⟨"java/lang/AbstractStringBuilder", "getValue", "()[B"⟩ : MethodName)) rfl (hw _ (List.mem_of_getElem? (i := 148) rfl)) (hw _ (List.mem_of_getElem? (i := 153) rfl)) (hw _ (List.mem_of_getElem? (i := 154) rfl)) (hw _ (List.mem_of_getElem? (i := 43) rfl)) (hw _ (List.mem_of_getElem? (i := 155) rfl)) (by decide) EX (con_sln l Z a0 hw hEL x (34 : Int32) h0 EX FN) pd___I (argsL := []) (st := []) rfl rfl rfl rfl (by decide) (w := 0) (Nat.le_of_eq rfl) (by decide) (by decide) (by decide) (by simp) (fun q hq => nomatch hq) ?_
  intro v324 T325 h326 S329 q327 W330
  have W328 := W330.sf (SF' := [z]) (fun _ hx => List.mem_append_right _ hx)
  obtain ⟨rfl, rfl⟩ := q327
  refine g_istore W328 dQ23_13 (pc' := 15) rfl (ls' := #[.val (.ref z), .val (.ref x), .val .null, .val (.ref t), .val (.int (34 : Int32))]) rfl ?_
  refine g_aloadN W328 dQ23_15 (pc' := 16) rfl rfl rfl ?_
  refine g_virtual W328 dQ23_16 (pc' := 19) (C := "java/lang/StringBuilder") rfl (hw _ (List.mem_of_getElem? (i := 158) rfl)) (hw _ (List.mem_of_getElem? (i := 159) rfl)) (y7 := (⟨"java/lang/AbstractStringBuilder", "getValue", "()[B"⟩ : MethodName)) rfl (hw _ (List.mem_of_getElem? (i := 148) rfl)) (hw _ (List.mem_of_getElem? (i := 161) rfl)) (hw _ (List.mem_of_getElem? (i := 160) rfl)) (hw _ (List.mem_of_getElem? (i := 51) rfl)) (hw _ (List.mem_of_getElem? (i := 162) rfl)) (by decide) EX (con_ail l Z a0 hw hEL x t zc SC hzc h0 O EX FV FD) pd___Z (argsL := []) (st := []) rfl rfl rfl rfl (by decide) (w := 0) (Nat.le_of_eq rfl) (by decide) (by decide) (by decide) (by simp) (fun q hq => nomatch hq) ?_
  intro v331 T332 h333 S336 q334 W337
  have W335 := W337.sf (SF' := [z]) (fun _ hx => List.mem_append_right _ hx)
  obtain ⟨rfl, rfl⟩ := q334
  refine g_ifN W335 dQ23_19 (pc' := 22) (feq (by decide : ¬ ((1 : Int32) = (0 : Int32)))).1 rfl ?_
  refine g_aloadN W335 dQ23_22 (pc' := 23) rfl rfl rfl ?_
  refine g_iconst W335 dQ23_23 (pc' := 24) rfl (v := 0) rfl ?_
  refine g_putF W335 dQ23_24 (pc' := 27) rfl (hw _ (List.mem_of_getElem? (i := 33) rfl)) FC0 E (Or.inr ⟨(hw _ (List.mem_of_getElem? (i := 34) rfl)), rfl, rfl⟩) (hw _ (List.mem_of_getElem? (i := 8) rfl)) (ty := .byte) (by decide) rfl rfl (by simp) (Or.inl (by simp)) ?_
  intro T338 h339 w340 W341
  have hzt : t ≠ z := Ne.symm (E.neArv K (hw _ (List.mem_of_getElem? (i := 8) rfl)))
  have K1 := K.other w340 hzt
  have KE1 := KE.wr w340
  refine g_aloadN W341 dQ23_27 (pc' := 28) rfl rfl rfl ?_
  refine g_aloadN W341 dQ23_28 (pc' := 29) rfl rfl rfl ?_
  refine g_iconst W341 dQ23_29 (pc' := 30) rfl (v := 0) rfl ?_
  refine g_iload W341 dQ23_30 (pc' := 32) rfl rfl ?_
  refine g_static W341 dQ23_32 (pc' := 35) rfl (hw _ (List.mem_of_getElem? (i := 163) rfl)) (hw _ (List.mem_of_getElem? (i := 164) rfl)) (hw _ (List.mem_of_getElem? (i := 126) rfl)) (hw _ (List.mem_of_getElem? (i := 165) rfl)) (by decide) (con_cpr l Z a0 hw hEL t kb _ h339 K1 KE1) pd___BII__B (argsL := [(.ref t), (.int (0 : Int32)), (.int (34 : Int32))]) (st := [(.ref z)]) rfl rfl rfl rfl (by decide) (w := 1) (Nat.le_of_eq rfl) (by decide) (by decide) (by decide) (by simp) (fun q hq => nomatch hq) ?_
  intro v342 T343 h344 S347 q345 W348
  have W346 := W348.sf (SF' := [z]) (fun _ hx => List.mem_append_right _ hx)
  obtain ⟨t', rfl, X, nt, A⟩ := q345
  refine g_putF W346 dQ23_35 (pc' := 38) rfl (hw _ (List.mem_of_getElem? (i := 35) rfl)) ((FV0.other w340 (Or.inr hsl)).ext X) ((E.wr w340).ext X) (Or.inr ⟨(hw _ (List.mem_of_getElem? (i := 36) rfl)), rfl, rfl⟩) (hw _ (List.mem_of_getElem? (i := 8) rfl)) (ty := .array .byte) (by decide) rfl rfl (by simp) (Or.inl (by simp)) ?_
  intro T349 h350 w351 W352
  have hnx : t' ≠ z := Nat.ne_of_gt (Nat.lt_of_lt_of_le (E.wr w340).lt nt)
  refine g_goto W352 dQ23_38 (pc' := 97) (by decide) (by decide) ?_
  exact g_return W352 dQ23_97 rfl ⟨rfl, (((Keep.refl _ _).wr w340 (Or.inl (by simp))).ext X).wr w351 (Or.inl (by simp)), ((E.wr w340).ext X).wr w351, hb, t', kb, ((FV0.other w340 (Or.inr hsl)).ext X).same w351, ((FC0.same w340).ext X).other w351 (Or.inr (Ne.symm hsl)), (by rw [hl]; have q := A.other w351 hnx; rw [own_bufull hl] at q; exact q)⟩
set_option maxRecDepth 65536 in
set_option maxHeartbeats 4000000 in
theorem con_si1 (l : Launch) (Z : State) (a0 : Array Value) (hw : ∀ d ∈ tables_1, d.before a0 Z = true) (hEL : EW Z a0 consts_1) (z x t : Addr) (kb : ClassId) (cs : List Int32) (v0 c0 : Value) (zc : Int32) (SC : Sta Z Z.heap "java/lang/String" "COMPACT_STRINGS" "Z" (.int zc)) (hzc : ¬ zc = 0) (h0 : Heap) (O : Ext Z.heap h0) (E : Exa Z h0 z "java/lang/String") (FV0 : Fld Z h0 z "java/lang/String" "value" "[B" v0) (FC0 : Fld Z h0 z "java/lang/String" "coder" "B" c0) (SB : OSb Z h0 x t kb 34 cs) (hl : cs.length = 34) (hb : ∀ c ∈ cs, ¬ c < 0 ∧ ¬ (255 : Int32) < c) :
    Ocon l Z consts_1 (⟨"java/lang/String", "<init>", "(Ljava/lang/StringBuilder;)V"⟩ : MethodName) jdk_42_method_53_code 2 none [] ({ frames := 3, cells := 1, slots := 34, locals := 52 } : Room) #[(.ref z), (.ref x)] h0 [z] [(⟨z, RoadKit.slotOf Z "java/lang/String" "coder" "B"⟩ : Loc), (⟨z, RoadKit.slotOf Z "java/lang/String" "value" "[B"⟩ : Loc)] (fun v h _ => v = none ∧ Keep h0 h [z] ∧ OLat Z h z cs) := by
  refine own_con (a0 := a0) hEL (plainFor_of_name pn_java_lang_String) ?_
  intro p e s m below meth c T hs W0
  have ef : entryFrame m #[(.ref z), (.ref x)] 2 = mkF m 0 #[.val (.ref z), .val (.ref x)] [] := own_entry m [(.ref z), (.ref x)] 2 (by simp [Value.category]) rfl
  rw [ef]
  refine g_aloadN W0 dQ22_0 (pc' := 1) rfl rfl rfl ?_
  refine g_aloadN W0 dQ22_1 (pc' := 2) rfl rfl rfl ?_
  refine g_aconst_null W0 dQ22_2 (pc' := 3) rfl ?_
  refine g_special W0 dQ22_3 (pc' := 6) rfl rfl (hw _ (List.mem_of_getElem? (i := 142) rfl)) (hw _ (List.mem_of_getElem? (i := 143) rfl)) (hw _ (List.mem_of_getElem? (i := 9) rfl)) (hw _ (List.mem_of_getElem? (i := 144) rfl)) (by decide) (con_si2 l Z a0 hw hEL z x t kb cs v0 c0 zc SC hzc h0 O E FV0 FC0 SB hl hb) pd__Ljava_lang_AbstractStringBuilder_Ljava_lang_Void__V (argsL := [(.ref x), .null]) (st := []) rfl rfl rfl rfl (by decide) (w := 0) (Nat.le_of_eq rfl) (by decide) (by decide) (by decide) (by simp) (fun q hq => Or.inl hq) ?_
  intro v353 T354 h355 S358 q356 W359
  have W357 := W359.sf (SF' := [z]) (fun _ hx => List.mem_append_right _ hx)
  obtain ⟨rfl, qK, qS⟩ := q356
  exact g_return W357 dQ22_6 rfl ⟨rfl, qK, qS⟩
set_option maxRecDepth 65536 in
set_option maxHeartbeats 4000000 in
theorem con_tst (l : Launch) (Z : State) (a0 : Array Value) (hw : ∀ d ∈ tables_1, d.before a0 Z = true) (hEL : EW Z a0 consts_1) (x t : Addr) (kb : ClassId) (cs : List Int32) (zc : Int32) (SC : Sta Z Z.heap "java/lang/String" "COMPACT_STRINGS" "Z" (.int zc)) (hzc : ¬ zc = 0) (h0 : Heap) (O : Ext Z.heap h0) (SB : OSb Z h0 x t kb 34 cs) (hl : cs.length = 34) (hb : ∀ c ∈ cs, ¬ c < 0 ∧ ¬ (255 : Int32) < c) :
    Ocon l Z consts_1 (⟨"java/lang/StringBuilder", "toString", "()Ljava/lang/String;"⟩ : MethodName) jdk_67_method_42_code 1 (some (.object "java/lang/String")) [] ({ frames := 4, cells := 2, slots := 38, locals := 67 } : Room) #[(.ref x)] h0 [] [] (fun v h _ => ∃ z, v = some (.ref z) ∧ Ext h0 h ∧ OLat Z h z cs) := by
  refine own_con (a0 := a0) hEL (plainFor_of_name pn_java_lang_StringBuilder) ?_
  intro p e s m below meth c T hs W0
  have ef : entryFrame m #[(.ref x)] 1 = mkF m 0 #[.val (.ref x)] [] := own_entry m [(.ref x)] 1 (by simp [Value.category]) rfl
  rw [ef]
  refine g_new W0 dQ21_0 (pc' := 3) rfl (hw _ (List.mem_of_getElem? (i := 138) rfl)) (hw _ (List.mem_of_getElem? (i := 8) rfl)) (hw _ (List.mem_of_getElem? (i := 9) rfl)) (by decide) (by decide) ?_
  intro T360 h361 E362 A363 D364 U365 W366
  obtain ⟨a367, g368⟩ : ∃ z, z = h0.size := ⟨_, rfl⟩
  rw [← g368] at A363 D364 U365 W366 ⊢
  have nx : s.heap.size ≤ a367 := by rw [g368, hs]; exact Nat.le_refl _
  refine g_dup W366 dQ21_3 (pc' := 4) rfl rfl ?_
  refine g_aloadN W366 dQ21_4 (pc' := 5) rfl rfl rfl ?_
  refine g_special W366 dQ21_5 (pc' := 8) rfl rfl (hw _ (List.mem_of_getElem? (i := 139) rfl)) (hw _ (List.mem_of_getElem? (i := 140) rfl)) (hw _ (List.mem_of_getElem? (i := 9) rfl)) (hw _ (List.mem_of_getElem? (i := 141) rfl)) (by decide) (con_si1 l Z a0 hw hEL a367 x t kb cs _ _ zc SC hzc h361 (own_ext_tr O E362) A363 (D364 (Or.inr (hw _ (List.mem_of_getElem? (i := 36) rfl))) (ty := .array .byte) (by decide)) (D364 (Or.inr (hw _ (List.mem_of_getElem? (i := 34) rfl))) (ty := .byte) (by decide)) (SB.ext E362) hl hb) pd__Ljava_lang_StringBuilder__V (argsL := [(.ref x)]) (st := [(.ref a367)]) rfl rfl rfl rfl (by decide) (w := 1) (Nat.le_of_eq rfl) (by decide) (by decide) (by decide) (by simp) (fun q hq => Or.inr (by rcases List.mem_cons.mp hq with rfl | hq; exact nx; cases List.mem_singleton.mp hq; exact nx)) ?_
  intro v369 T370 h371 S374 q372 W375
  have W373 := W375.sf (SF' := [a367]) (fun _ hx => List.mem_append_right _ hx)
  obtain ⟨rfl, qK, qS⟩ := q372
  have X3 := own_ext_keep E362 qK (by intro y hy; rw [List.mem_singleton.mp hy, g368]; exact Nat.le_refl _)
  exact g_aret W373 dQ21_8 rfl rfl rfl rfl ⟨a367, rfl, X3, qS⟩
theorem own_exa : ∀ d ∈ Jvm.Free.Exc.excAtoms "com/example/shardwright/shardwright/CommandException", d = .lays Bundle.tN Bundle.tN "suppressedExceptions" Bundle.listD ∨ d ∈ tables_1 := by decide +kernel
theorem own_wA {Z : State} {a0 : Array Value} (hw : ∀ d ∈ tables_1, d.before a0 Z = true) : ∀ d ∈ Jvm.Free.Exc.excAtoms "com/example/shardwright/shardwright/CommandException", d ≠ .lays Bundle.tN Bundle.tN "suppressedExceptions" Bundle.listD → d.before a0 Z = true := fun d hd hn => hw d ((own_exa d hd).resolve_left hn)
theorem own_insix {Z : State} {x : Addr} {nd : String × String} (h : nd ∈ Jvm.Free.Exc.sixNames) : (⟨x, RoadKit.slotOf Z "java/lang/Throwable" nd.1 nd.2⟩ : Loc) ∈ sixLocs Z x := List.mem_map.mpr ⟨nd, h, rfl⟩
theorem own_six_exitCode {Z : State} {a0 : Array Value} (hw : ∀ d ∈ tables_1, d.before a0 Z = true) : ∀ nd ∈ Jvm.Free.Exc.sixNames, RoadKit.slotOf Z "java/lang/Throwable" nd.1 nd.2 ≠ RoadKit.slotOf Z "com/example/shardwright/shardwright/CommandException" "exitCode" "I" := by
  intro nd hnd
  simp only [Jvm.Free.Exc.sixNames, List.mem_cons, List.not_mem_nil, or_false] at hnd
  rcases hnd with rfl | rfl | rfl | rfl | rfl | rfl
  · exact slot_ne (t := (.object "java/lang/Throwable")) (t' := .int) (Or.inl (hw _ (List.mem_of_getElem? (i := 196) rfl))) (Or.inr (hw _ (List.mem_of_getElem? (i := 232) rfl))) (by decide) (by decide) (by decide)
  · exact slot_ne (t := (.array (.object "java/lang/StackTraceElement"))) (t' := .int) (Or.inl (hw _ (List.mem_of_getElem? (i := 199) rfl))) (Or.inr (hw _ (List.mem_of_getElem? (i := 232) rfl))) (by decide) (by decide) (by decide)
  · exact slot_ne (t := (.object "java/util/List")) (t' := .int) (Or.inl (hw _ (List.mem_of_getElem? (i := 202) rfl))) (Or.inr (hw _ (List.mem_of_getElem? (i := 232) rfl))) (by decide) (by decide) (by decide)
  · exact slot_ne (t := (.object "java/lang/Object")) (t' := .int) (Or.inl (hw _ (List.mem_of_getElem? (i := 227) rfl))) (Or.inr (hw _ (List.mem_of_getElem? (i := 232) rfl))) (by decide) (by decide) (by decide)
  · exact slot_ne (t := .int) (t' := .int) (Or.inl (hw _ (List.mem_of_getElem? (i := 228) rfl))) (Or.inr (hw _ (List.mem_of_getElem? (i := 232) rfl))) (by decide) (by decide) (by decide)
  · exact slot_ne (t := (.object "java/lang/String")) (t' := .int) (Or.inl (hw _ (List.mem_of_getElem? (i := 226) rfl))) (Or.inr (hw _ (List.mem_of_getElem? (i := 232) rfl))) (by decide) (by decide) (by decide)
theorem own_six_showsUsage {Z : State} {a0 : Array Value} (hw : ∀ d ∈ tables_1, d.before a0 Z = true) : ∀ nd ∈ Jvm.Free.Exc.sixNames, RoadKit.slotOf Z "java/lang/Throwable" nd.1 nd.2 ≠ RoadKit.slotOf Z "com/example/shardwright/shardwright/CommandException" "showsUsage" "Z" := by
  intro nd hnd
  simp only [Jvm.Free.Exc.sixNames, List.mem_cons, List.not_mem_nil, or_false] at hnd
  rcases hnd with rfl | rfl | rfl | rfl | rfl | rfl
  · exact slot_ne (t := (.object "java/lang/Throwable")) (t' := .boolean) (Or.inl (hw _ (List.mem_of_getElem? (i := 196) rfl))) (Or.inr (hw _ (List.mem_of_getElem? (i := 234) rfl))) (by decide) (by decide) (by decide)
  · exact slot_ne (t := (.array (.object "java/lang/StackTraceElement"))) (t' := .boolean) (Or.inl (hw _ (List.mem_of_getElem? (i := 199) rfl))) (Or.inr (hw _ (List.mem_of_getElem? (i := 234) rfl))) (by decide) (by decide) (by decide)
  · exact slot_ne (t := (.object "java/util/List")) (t' := .boolean) (Or.inl (hw _ (List.mem_of_getElem? (i := 202) rfl))) (Or.inr (hw _ (List.mem_of_getElem? (i := 234) rfl))) (by decide) (by decide) (by decide)
  · exact slot_ne (t := (.object "java/lang/Object")) (t' := .boolean) (Or.inl (hw _ (List.mem_of_getElem? (i := 227) rfl))) (Or.inr (hw _ (List.mem_of_getElem? (i := 234) rfl))) (by decide) (by decide) (by decide)
  · exact slot_ne (t := .int) (t' := .boolean) (Or.inl (hw _ (List.mem_of_getElem? (i := 228) rfl))) (Or.inr (hw _ (List.mem_of_getElem? (i := 234) rfl))) (by decide) (by decide) (by decide)
  · exact slot_ne (t := (.object "java/lang/String")) (t' := .boolean) (Or.inl (hw _ (List.mem_of_getElem? (i := 226) rfl))) (Or.inr (hw _ (List.mem_of_getElem? (i := 234) rfl))) (by decide) (by decide) (by decide)
theorem dT1_0 : decode jdk_78_method_2_code 0 = .ok (.aload_n 0, 1) := by decide +kernel
theorem dT1_1 : decode jdk_78_method_2_code 1 = .ok (.invokespecial 1, 3) := by decide +kernel
theorem dT1_4 : decode jdk_78_method_2_code 4 = .ok (.aload_n 0, 1) := by decide +kernel
theorem dT1_5 : decode jdk_78_method_2_code 5 = .ok (.aload_n 0, 1) := by decide +kernel
theorem dT1_6 : decode jdk_78_method_2_code 6 = .ok (.putfield 7, 3) := by decide +kernel
theorem dT1_9 : decode jdk_78_method_2_code 9 = .ok (.aload_n 0, 1) := by decide +kernel
theorem dT1_10 : decode jdk_78_method_2_code 10 = .ok (.getstatic 13, 3) := by decide +kernel
theorem dT1_13 : decode jdk_78_method_2_code 13 = .ok (.putfield 17, 3) := by decide +kernel
theorem dT1_16 : decode jdk_78_method_2_code 16 = .ok (.aload_n 0, 1) := by decide +kernel
theorem dT1_17 : decode jdk_78_method_2_code 17 = .ok (.getstatic 20, 3) := by decide +kernel
theorem dT1_20 : decode jdk_78_method_2_code 20 = .ok (.putfield 24, 3) := by decide +kernel
theorem dT1_23 : decode jdk_78_method_2_code 23 = .ok (.aload_n 0, 1) := by decide +kernel
theorem dT1_24 : decode jdk_78_method_2_code 24 = .ok (.invokevirtual 27, 3) := by decide +kernel
theorem dT1_27 : decode jdk_78_method_2_code 27 = .ok (.pop, 1) := by decide +kernel
theorem dT1_28 : decode jdk_78_method_2_code 28 = .ok (.aload_n 0, 1) := by decide +kernel
theorem dT1_29 : decode jdk_78_method_2_code 29 = .ok (.aload_n 1, 1) := by decide +kernel
theorem dT1_30 : decode jdk_78_method_2_code 30 = .ok (.putfield 31, 3) := by decide +kernel
theorem dT1_33 : decode jdk_78_method_2_code 33 = .ok (.return_, 1) := by decide +kernel
theorem dT2_0 : decode jdk_59_method_2_code 0 = .ok (.aload_n 0, 1) := by decide +kernel
theorem dT2_1 : decode jdk_59_method_2_code 1 = .ok (.aload_n 1, 1) := by decide +kernel
theorem dT2_2 : decode jdk_59_method_2_code 2 = .ok (.invokespecial 7, 3) := by decide +kernel
theorem dT2_5 : decode jdk_59_method_2_code 5 = .ok (.return_, 1) := by decide +kernel
theorem pn_java_lang_Throwable : plainName "java/lang/Throwable" = true := by first | (simp [plainName, overriddenIn]; done) | decide +kernel
set_option maxRecDepth 65536 in
set_option maxHeartbeats 4000000 in
theorem con_ti (l : Launch) (Z : State) (a0 : Array Value) (hw : ∀ d ∈ tables_1, d.before a0 Z = true) (hEL : EW Z a0 consts_1) (x z : Addr) (e0 u0 k1 k2 k3 : Value) (hst : l.stackTraces = true) (uu sn : Addr) (SU : Sta Z Z.heap "java/lang/Throwable" "UNASSIGNED_STACK" "[Ljava/lang/StackTraceElement;" (.ref uu)) (SN : Sta Z Z.heap "java/lang/Throwable" "SUPPRESSED_SENTINEL" "Ljava/util/List;" (.ref sn)) (h0 : Heap) (O : Ext Z.heap h0) (EX : Exa Z h0 x "com/example/shardwright/shardwright/CommandException") (U : Unt h0 x) (F1 : Fld Z h0 x "com/example/shardwright/shardwright/CommandException" "exitCode" "I" e0) (F2 : Fld Z h0 x "com/example/shardwright/shardwright/CommandException" "showsUsage" "Z" u0) (F3 : Fld Z h0 x "java/lang/Throwable" "backtrace" "Ljava/lang/Object;" .null) (F4 : Fld Z h0 x "java/lang/Throwable" "detailMessage" "Ljava/lang/String;" .null) (F5 : Fld Z h0 x "java/lang/Throwable" "cause" "Ljava/lang/Throwable;" k1) (F6 : Fld Z h0 x "java/lang/Throwable" "stackTrace" "[Ljava/lang/StackTraceElement;" k2) (F7 : Fld Z h0 x "java/lang/Throwable" "suppressedExceptions" "Ljava/util/List;" k3) (zx : Z.heap.size ≤ x) :
    Ocon l Z consts_1 (⟨"java/lang/Throwable", "<init>", "(Ljava/lang/String;)V"⟩ : MethodName) jdk_78_method_2_code 2 none [] ({ frames := 3, cells := 1, slots := 2752, locals := 42 } : Room) #[(.ref x), (.ref z)] h0 [x] (sixLocs Z x) (fun v h _ => v = none ∧ Keep h0 h [x] ∧ Exa Z h x "com/example/shardwright/shardwright/CommandException" ∧ Fld Z h x "java/lang/Throwable" "detailMessage" "Ljava/lang/String;" (.ref z) ∧ Fld Z h x "com/example/shardwright/shardwright/CommandException" "exitCode" "I" e0 ∧ Fld Z h x "com/example/shardwright/shardwright/CommandException" "showsUsage" "Z" u0) := by
  refine own_con (a0 := a0) hEL (plainFor_of_name pn_java_lang_Throwable) ?_
  intro p e s m below meth c T hs W0
  have ef : entryFrame m #[(.ref x), (.ref z)] 2 = mkF m 0 #[.val (.ref x), .val (.ref z)] [] := own_entry m [(.ref x), (.ref z)] 2 (by simp [Value.category]) rfl
  rw [ef]
  refine g_aloadN W0 dT1_0 (pc' := 1) rfl rfl rfl ?_
  refine g_initO W0 dT1_1 (pc' := 4) rfl (hw _ (List.mem_of_getElem? (i := 194) rfl)) (hw _ (List.mem_of_getElem? (i := 19) rfl)) (hw _ (List.mem_of_getElem? (i := 20) rfl)) rfl (by decide) (w := 0) (Nat.le_refl _) (by decide) ?_
  intro T376 W377
  refine g_aloadN W377 dT1_4 (pc' := 5) rfl rfl rfl ?_
  refine g_aloadN W377 dT1_5 (pc' := 6) rfl rfl rfl ?_
  refine g_putF W377 dT1_6 (pc' := 9) rfl (hw _ (List.mem_of_getElem? (i := 195) rfl)) F5 EX (Or.inl (hw _ (List.mem_of_getElem? (i := 196) rfl))) (hw _ (List.mem_of_getElem? (i := 179) rfl)) (ty := (.object "java/lang/Throwable")) (by decide) rfl rfl (by simp) (Or.inl (own_insix (nd := ("cause", "Ljava/lang/Throwable;")) (by decide))) ?_
  intro T378 h379 w380 W381
  have F382 := F5.same w380
  have F383 := F6.other w380 (Or.inr (slot_ne (t := (.array (.object "java/lang/StackTraceElement"))) (t' := (.object "java/lang/Throwable")) (Or.inl (hw _ (List.mem_of_getElem? (i := 199) rfl))) (Or.inl (hw _ (List.mem_of_getElem? (i := 196) rfl))) (by decide) (by decide) (by decide)))
  have F384 := F7.other w380 (Or.inr (slot_ne (t := (.object "java/util/List")) (t' := (.object "java/lang/Throwable")) (Or.inl (hw _ (List.mem_of_getElem? (i := 202) rfl))) (Or.inl (hw _ (List.mem_of_getElem? (i := 196) rfl))) (by decide) (by decide) (by decide)))
  have F385 := F3.other w380 (Or.inr (slot_ne (t := (.object "java/lang/Object")) (t' := (.object "java/lang/Throwable")) (Or.inl (hw _ (List.mem_of_getElem? (i := 227) rfl))) (Or.inl (hw _ (List.mem_of_getElem? (i := 196) rfl))) (by decide) (by decide) (by decide)))
  have F386 := F4.other w380 (Or.inr (slot_ne (t := (.object "java/lang/String")) (t' := (.object "java/lang/Throwable")) (Or.inl (hw _ (List.mem_of_getElem? (i := 226) rfl))) (Or.inl (hw _ (List.mem_of_getElem? (i := 196) rfl))) (by decide) (by decide) (by decide)))
  have F387 := F1.other w380 (Or.inr (slot_ne (t := .int) (t' := (.object "java/lang/Throwable")) (Or.inr (hw _ (List.mem_of_getElem? (i := 232) rfl))) (Or.inl (hw _ (List.mem_of_getElem? (i := 196) rfl))) (by decide) (by decide) (by decide)))
  have F388 := F2.other w380 (Or.inr (slot_ne (t := .boolean) (t' := (.object "java/lang/Throwable")) (Or.inr (hw _ (List.mem_of_getElem? (i := 234) rfl))) (Or.inl (hw _ (List.mem_of_getElem? (i := 196) rfl))) (by decide) (by decide) (by decide)))
  have E389 := EX.wr w380
  have U390 := Unt.wr w380 U
  have O391 := own_ext_wr O w380 zx
  have K392 := (Keep.refl h0 [x]).wr w380 (Or.inl (by simp))
  refine g_aloadN W381 dT1_9 (pc' := 10) rfl rfl rfl ?_
  refine g_getS W381 dT1_10 (pc' := 13) rfl (hw _ (List.mem_of_getElem? (i := 197) rfl)) (SU.ext O391) ?_
  intro T394 W393
  refine g_putF W393 dT1_13 (pc' := 16) rfl (hw _ (List.mem_of_getElem? (i := 198) rfl)) F383 E389 (Or.inl (hw _ (List.mem_of_getElem? (i := 199) rfl))) (hw _ (List.mem_of_getElem? (i := 179) rfl)) (ty := (.array (.object "java/lang/StackTraceElement"))) (by decide) rfl rfl (by simp) (Or.inl (own_insix (nd := ("stackTrace", "[Ljava/lang/StackTraceElement;")) (by decide))) ?_
  intro T395 h396 w397 W398
  have F399 := F382.other w397 (Or.inr (slot_ne (t := (.object "java/lang/Throwable")) (t' := (.array (.object "java/lang/StackTraceElement"))) (Or.inl (hw _ (List.mem_of_getElem? (i := 196) rfl))) (Or.inl (hw _ (List.mem_of_getElem? (i := 199) rfl))) (by decide) (by decide) (by decide)))
  have F400 := F383.same w397
  have F401 := F384.other w397 (Or.inr (slot_ne (t := (.object "java/util/List")) (t' := (.array (.object "java/lang/StackTraceElement"))) (Or.inl (hw _ (List.mem_of_getElem? (i := 202) rfl))) (Or.inl (hw _ (List.mem_of_getElem? (i := 199) rfl))) (by decide) (by decide) (by decide)))
  have F402 := F385.other w397 (Or.inr (slot_ne (t := (.object "java/lang/Object")) (t' := (.array (.object "java/lang/StackTraceElement"))) (Or.inl (hw _ (List.mem_of_getElem? (i := 227) rfl))) (Or.inl (hw _ (List.mem_of_getElem? (i := 199) rfl))) (by decide) (by decide) (by decide)))
  have F403 := F386.other w397 (Or.inr (slot_ne (t := (.object "java/lang/String")) (t' := (.array (.object "java/lang/StackTraceElement"))) (Or.inl (hw _ (List.mem_of_getElem? (i := 226) rfl))) (Or.inl (hw _ (List.mem_of_getElem? (i := 199) rfl))) (by decide) (by decide) (by decide)))
  have F404 := F387.other w397 (Or.inr (slot_ne (t := .int) (t' := (.array (.object "java/lang/StackTraceElement"))) (Or.inr (hw _ (List.mem_of_getElem? (i := 232) rfl))) (Or.inl (hw _ (List.mem_of_getElem? (i := 199) rfl))) (by decide) (by decide) (by decide)))
  have F405 := F388.other w397 (Or.inr (slot_ne (t := .boolean) (t' := (.array (.object "java/lang/StackTraceElement"))) (Or.inr (hw _ (List.mem_of_getElem? (i := 234) rfl))) (Or.inl (hw _ (List.mem_of_getElem? (i := 199) rfl))) (by decide) (by decide) (by decide)))
  have E406 := E389.wr w397
  have U407 := Unt.wr w397 U390
  have O408 := own_ext_wr O391 w397 zx
  have K409 := K392.wr w397 (Or.inl (by simp))
  refine g_aloadN W398 dT1_16 (pc' := 17) rfl rfl rfl ?_
  refine g_getS W398 dT1_17 (pc' := 20) rfl (hw _ (List.mem_of_getElem? (i := 200) rfl)) (SN.ext O408) ?_
  intro T411 W410
  refine g_putF W410 dT1_20 (pc' := 23) rfl (hw _ (List.mem_of_getElem? (i := 201) rfl)) F401 E406 (Or.inl (hw _ (List.mem_of_getElem? (i := 202) rfl))) (hw _ (List.mem_of_getElem? (i := 179) rfl)) (ty := (.object "java/util/List")) (by decide) rfl rfl (by simp) (Or.inl (own_insix (nd := ("suppressedExceptions", "Ljava/util/List;")) (by decide))) ?_
  intro T412 h413 w414 W415
  have F416 := F399.other w414 (Or.inr (slot_ne (t := (.object "java/lang/Throwable")) (t' := (.object "java/util/List")) (Or.inl (hw _ (List.mem_of_getElem? (i := 196) rfl))) (Or.inl (hw _ (List.mem_of_getElem? (i := 202) rfl))) (by decide) (by decide) (by decide)))
  have F417 := F400.other w414 (Or.inr (slot_ne (t := (.array (.object "java/lang/StackTraceElement"))) (t' := (.object "java/util/List")) (Or.inl (hw _ (List.mem_of_getElem? (i := 199) rfl))) (Or.inl (hw _ (List.mem_of_getElem? (i := 202) rfl))) (by decide) (by decide) (by decide)))
  have F418 := F401.same w414
  have F419 := F402.other w414 (Or.inr (slot_ne (t := (.object "java/lang/Object")) (t' := (.object "java/util/List")) (Or.inl (hw _ (List.mem_of_getElem? (i := 227) rfl))) (Or.inl (hw _ (List.mem_of_getElem? (i := 202) rfl))) (by decide) (by decide) (by decide)))
  have F420 := F403.other w414 (Or.inr (slot_ne (t := (.object "java/lang/String")) (t' := (.object "java/util/List")) (Or.inl (hw _ (List.mem_of_getElem? (i := 226) rfl))) (Or.inl (hw _ (List.mem_of_getElem? (i := 202) rfl))) (by decide) (by decide) (by decide)))
  have F421 := F404.other w414 (Or.inr (slot_ne (t := .int) (t' := (.object "java/util/List")) (Or.inr (hw _ (List.mem_of_getElem? (i := 232) rfl))) (Or.inl (hw _ (List.mem_of_getElem? (i := 202) rfl))) (by decide) (by decide) (by decide)))
  have F422 := F405.other w414 (Or.inr (slot_ne (t := .boolean) (t' := (.object "java/util/List")) (Or.inr (hw _ (List.mem_of_getElem? (i := 234) rfl))) (Or.inl (hw _ (List.mem_of_getElem? (i := 202) rfl))) (by decide) (by decide) (by decide)))
  have E423 := E406.wr w414
  have U424 := Unt.wr w414 U407
  have O425 := own_ext_wr O408 w414 zx
  have K426 := K409.wr w414 (Or.inl (by simp))
  refine g_aloadN W415 dT1_23 (pc' := 24) rfl rfl rfl ?_
  refine g_fill W415 dT1_24 (pc' := 27) (rc := "com/example/shardwright/shardwright/CommandException") rfl (hw _ (List.mem_of_getElem? (i := 203) rfl)) (hw _ (List.mem_of_getElem? (i := 204) rfl)) (hw _ (List.mem_of_getElem? (i := 206) rfl)) (hw _ (List.mem_of_getElem? (i := 205) rfl)) (own_wA hw) (hw _ (List.mem_of_getElem? (i := 179) rfl)) hst (by decide) (by rw [hs]; exact O) O425 E423 U424 F417 F419 SU rfl (by simp) (fun q hq => Or.inl hq) (by decide) (w := 0) (Nat.le_of_eq rfl) (by decide) (by decide) (by decide) ?_
  intro T427 h428 k429 f430 W431
  have F432 := f430 F420 (slot_ne (t := (.object "java/lang/String")) (t' := (.object "java/lang/Object")) (Or.inl (hw _ (List.mem_of_getElem? (i := 226) rfl))) (Or.inl (hw _ (List.mem_of_getElem? (i := 227) rfl))) (by decide) (by decide) (by decide)) (slot_ne (t := (.object "java/lang/String")) (t' := .int) (Or.inl (hw _ (List.mem_of_getElem? (i := 226) rfl))) (Or.inl (hw _ (List.mem_of_getElem? (i := 228) rfl))) (by decide) (by decide) (by decide)) (slot_ne (t := (.object "java/lang/String")) (t' := (.array (.object "java/lang/StackTraceElement"))) (Or.inl (hw _ (List.mem_of_getElem? (i := 226) rfl))) (Or.inl (hw _ (List.mem_of_getElem? (i := 199) rfl))) (by decide) (by decide) (by decide))
  have F433 := f430 F421 (slot_ne (t := .int) (t' := (.object "java/lang/Object")) (Or.inr (hw _ (List.mem_of_getElem? (i := 232) rfl))) (Or.inl (hw _ (List.mem_of_getElem? (i := 227) rfl))) (by decide) (by decide) (by decide)) (slot_ne (t := .int) (t' := .int) (Or.inr (hw _ (List.mem_of_getElem? (i := 232) rfl))) (Or.inl (hw _ (List.mem_of_getElem? (i := 228) rfl))) (by decide) (by decide) (by decide)) (slot_ne (t := .int) (t' := (.array (.object "java/lang/StackTraceElement"))) (Or.inr (hw _ (List.mem_of_getElem? (i := 232) rfl))) (Or.inl (hw _ (List.mem_of_getElem? (i := 199) rfl))) (by decide) (by decide) (by decide))
  have F434 := f430 F422 (slot_ne (t := .boolean) (t' := (.object "java/lang/Object")) (Or.inr (hw _ (List.mem_of_getElem? (i := 234) rfl))) (Or.inl (hw _ (List.mem_of_getElem? (i := 227) rfl))) (by decide) (by decide) (by decide)) (slot_ne (t := .boolean) (t' := .int) (Or.inr (hw _ (List.mem_of_getElem? (i := 234) rfl))) (Or.inl (hw _ (List.mem_of_getElem? (i := 228) rfl))) (by decide) (by decide) (by decide)) (slot_ne (t := .boolean) (t' := (.array (.object "java/lang/StackTraceElement"))) (Or.inr (hw _ (List.mem_of_getElem? (i := 234) rfl))) (Or.inl (hw _ (List.mem_of_getElem? (i := 199) rfl))) (by decide) (by decide) (by decide))
  have E435 := E423.kp k429
  have U436 := Unt.kp k429 U424
  have O437 := own_ext_keep O425 (keep_of_kp k429) (by intro y hy; rw [List.mem_singleton.mp hy]; exact zx)
  have K438 := K426.trans (keep_of_kp k429) (fun y hy => Or.inl hy)
  refine g_pop W431 dT1_27 (pc' := 28) rfl rfl ?_
  refine g_aloadN W431 dT1_28 (pc' := 29) rfl rfl rfl ?_
  refine g_aloadN W431 dT1_29 (pc' := 30) rfl rfl rfl ?_
  refine g_putF W431 dT1_30 (pc' := 33) rfl (hw _ (List.mem_of_getElem? (i := 230) rfl)) F432 E435 (Or.inl (hw _ (List.mem_of_getElem? (i := 226) rfl))) (hw _ (List.mem_of_getElem? (i := 179) rfl)) (ty := (.object "java/lang/String")) (by decide) rfl rfl (by simp) (Or.inl (own_insix (nd := ("detailMessage", "Ljava/lang/String;")) (by decide))) ?_
  intro T439 h440 w441 W442
  have F443 := F432.same w441
  have F444 := F433.other w441 (Or.inr (slot_ne (t := .int) (t' := (.object "java/lang/String")) (Or.inr (hw _ (List.mem_of_getElem? (i := 232) rfl))) (Or.inl (hw _ (List.mem_of_getElem? (i := 226) rfl))) (by decide) (by decide) (by decide)))
  have F445 := F434.other w441 (Or.inr (slot_ne (t := .boolean) (t' := (.object "java/lang/String")) (Or.inr (hw _ (List.mem_of_getElem? (i := 234) rfl))) (Or.inl (hw _ (List.mem_of_getElem? (i := 226) rfl))) (by decide) (by decide) (by decide)))
  have E446 := E435.wr w441
  have U447 := Unt.wr w441 U436
  have O448 := own_ext_wr O437 w441 zx
  have K449 := K438.wr w441 (Or.inl (by simp))
  exact g_return W442 dT1_33 rfl ⟨rfl, K449, E446, F443, F444, F445⟩
theorem pn_java_lang_Exception : plainName "java/lang/Exception" = true := by first | (simp [plainName, overriddenIn]; done) | decide +kernel
set_option maxRecDepth 65536 in
set_option maxHeartbeats 4000000 in
theorem con_xi (l : Launch) (Z : State) (a0 : Array Value) (hw : ∀ d ∈ tables_1, d.before a0 Z = true) (hEL : EW Z a0 consts_1) (x z : Addr) (e0 u0 k1 k2 k3 : Value) (hst : l.stackTraces = true) (uu sn : Addr) (SU : Sta Z Z.heap "java/lang/Throwable" "UNASSIGNED_STACK" "[Ljava/lang/StackTraceElement;" (.ref uu)) (SN : Sta Z Z.heap "java/lang/Throwable" "SUPPRESSED_SENTINEL" "Ljava/util/List;" (.ref sn)) (h0 : Heap) (O : Ext Z.heap h0) (EX : Exa Z h0 x "com/example/shardwright/shardwright/CommandException") (U : Unt h0 x) (F1 : Fld Z h0 x "com/example/shardwright/shardwright/CommandException" "exitCode" "I" e0) (F2 : Fld Z h0 x "com/example/shardwright/shardwright/CommandException" "showsUsage" "Z" u0) (F3 : Fld Z h0 x "java/lang/Throwable" "backtrace" "Ljava/lang/Object;" .null) (F4 : Fld Z h0 x "java/lang/Throwable" "detailMessage" "Ljava/lang/String;" .null) (F5 : Fld Z h0 x "java/lang/Throwable" "cause" "Ljava/lang/Throwable;" k1) (F6 : Fld Z h0 x "java/lang/Throwable" "stackTrace" "[Ljava/lang/StackTraceElement;" k2) (F7 : Fld Z h0 x "java/lang/Throwable" "suppressedExceptions" "Ljava/util/List;" k3) (zx : Z.heap.size ≤ x) :
    Ocon l Z consts_1 (⟨"java/lang/Exception", "<init>", "(Ljava/lang/String;)V"⟩ : MethodName) jdk_59_method_2_code 2 none [] ({ frames := 4, cells := 1, slots := 2752, locals := 57 } : Room) #[(.ref x), (.ref z)] h0 [x] (sixLocs Z x) (fun v h _ => v = none ∧ Keep h0 h [x] ∧ Exa Z h x "com/example/shardwright/shardwright/CommandException" ∧ Fld Z h x "java/lang/Throwable" "detailMessage" "Ljava/lang/String;" (.ref z) ∧ Fld Z h x "com/example/shardwright/shardwright/CommandException" "exitCode" "I" e0 ∧ Fld Z h x "com/example/shardwright/shardwright/CommandException" "showsUsage" "Z" u0) := by
  refine own_con (a0 := a0) hEL (plainFor_of_name pn_java_lang_Exception) ?_
  intro p e s m below meth c T hs W0
  have ef : entryFrame m #[(.ref x), (.ref z)] 2 = mkF m 0 #[.val (.ref x), .val (.ref z)] [] := own_entry m [(.ref x), (.ref z)] 2 (by simp [Value.category]) rfl
  rw [ef]
  refine g_aloadN W0 dT2_0 (pc' := 1) rfl rfl rfl ?_
  refine g_aloadN W0 dT2_1 (pc' := 2) rfl rfl rfl ?_
  refine g_special W0 dT2_2 (pc' := 5) rfl rfl (hw _ (List.mem_of_getElem? (i := 188) rfl)) (hw _ (List.mem_of_getElem? (i := 189) rfl)) (hw _ (List.mem_of_getElem? (i := 192) rfl)) (hw _ (List.mem_of_getElem? (i := 193) rfl)) (by decide) (con_ti l Z a0 hw hEL x z e0 u0 k1 k2 k3 hst uu sn SU SN h0 O EX U F1 F2 F3 F4 F5 F6 F7 zx) pd__Ljava_lang_String__V (argsL := [(.ref z)]) (st := []) rfl rfl rfl rfl (by decide) (w := 0) (Nat.le_of_eq rfl) (by decide) (by decide) (by decide) (by simp) (fun q hq => Or.inl hq) ?_
  intro v450 T451 h452 S455 q453 W456
  have W454 := W456.sf (SF' := [x]) (fun _ hx => List.mem_append_right _ hx)
  obtain ⟨rfl, q1, q2, q3, q4, q5⟩ := q453
  exact g_return W454 dT2_5 rfl ⟨rfl, q1, q2, q3, q4, q5⟩
theorem pn_com_example_shardwright_shardwright_CommandException : plainName "com/example/shardwright/shardwright/CommandException" = true := by first | (simp [plainName, overriddenIn]; done) | decide +kernel
set_option maxRecDepth 65536 in
set_option maxHeartbeats 4000000 in
theorem con_cin (l : Launch) (Z : State) (a0 : Array Value) (hw : ∀ d ∈ tables_1, d.before a0 Z = true) (hEL : EW Z a0 consts_1) (x z : Addr) (e0 u0 k1 k2 k3 : Value) (hst : l.stackTraces = true) (uu sn : Addr) (SU : Sta Z Z.heap "java/lang/Throwable" "UNASSIGNED_STACK" "[Ljava/lang/StackTraceElement;" (.ref uu)) (SN : Sta Z Z.heap "java/lang/Throwable" "SUPPRESSED_SENTINEL" "Ljava/util/List;" (.ref sn)) (h0 : Heap) (O : Ext Z.heap h0) (EX : Exa Z h0 x "com/example/shardwright/shardwright/CommandException") (U : Unt h0 x) (F1 : Fld Z h0 x "com/example/shardwright/shardwright/CommandException" "exitCode" "I" e0) (F2 : Fld Z h0 x "com/example/shardwright/shardwright/CommandException" "showsUsage" "Z" u0) (F3 : Fld Z h0 x "java/lang/Throwable" "backtrace" "Ljava/lang/Object;" .null) (F4 : Fld Z h0 x "java/lang/Throwable" "detailMessage" "Ljava/lang/String;" .null) (F5 : Fld Z h0 x "java/lang/Throwable" "cause" "Ljava/lang/Throwable;" k1) (F6 : Fld Z h0 x "java/lang/Throwable" "stackTrace" "[Ljava/lang/StackTraceElement;" k2) (F7 : Fld Z h0 x "java/lang/Throwable" "suppressedExceptions" "Ljava/util/List;" k3) (zx : Z.heap.size ≤ x) :
    Ocon l Z consts_1 (⟨"com/example/shardwright/shardwright/CommandException", "<init>", "(IZLjava/lang/String;)V"⟩ : MethodName) prog_1_method_1_code 4 none [] ({ frames := 5, cells := 1, slots := 2752, locals := 72 } : Room) #[(.ref x), (.int (2 : Int32)), (.int (0 : Int32)), (.ref z)] h0 [x] (sixLocs Z x ++ [(⟨x, RoadKit.slotOf Z "com/example/shardwright/shardwright/CommandException" "exitCode" "I"⟩ : Loc), (⟨x, RoadKit.slotOf Z "com/example/shardwright/shardwright/CommandException" "showsUsage" "Z"⟩ : Loc)]) (fun v h _ => v = none ∧ Keep h0 h [x] ∧ Exa Z h x "com/example/shardwright/shardwright/CommandException" ∧ Fld Z h x "java/lang/Throwable" "detailMessage" "Ljava/lang/String;" (.ref z) ∧ Fld Z h x "com/example/shardwright/shardwright/CommandException" "exitCode" "I" (.int 2) ∧ Fld Z h x "com/example/shardwright/shardwright/CommandException" "showsUsage" "Z" (.int 0)) := by
  refine own_con (a0 := a0) hEL (plainFor_of_name pn_com_example_shardwright_shardwright_CommandException) ?_
  intro p e s m below meth c T hs W0
  have ef : entryFrame m #[(.ref x), (.int (2 : Int32)), (.int (0 : Int32)), (.ref z)] 4 = mkF m 0 #[.val (.ref x), .val (.int (2 : Int32)), .val (.int (0 : Int32)), .val (.ref z)] [] := own_entry m [(.ref x), (.int (2 : Int32)), (.int (0 : Int32)), (.ref z)] 4 (by simp [Value.category]) rfl
  rw [ef]
  have hsu : RoadKit.slotOf Z "com/example/shardwright/shardwright/CommandException" "showsUsage" "Z" ≠ RoadKit.slotOf Z "com/example/shardwright/shardwright/CommandException" "exitCode" "I" := slot_ne (t := .boolean) (t' := .int) (Or.inr (hw _ (List.mem_of_getElem? (i := 234) rfl))) (Or.inr (hw _ (List.mem_of_getElem? (i := 232) rfl))) (by decide) (by decide) (by decide)
  refine g_aloadN W0 dQ4_0 (pc' := 1) rfl rfl rfl ?_
  refine g_aloadN W0 dQ4_1 (pc' := 2) rfl rfl rfl ?_
  refine g_special W0 dQ4_2 (pc' := 5) rfl rfl (hw _ (List.mem_of_getElem? (i := 183) rfl)) (hw _ (List.mem_of_getElem? (i := 184) rfl)) (hw _ (List.mem_of_getElem? (i := 186) rfl)) (hw _ (List.mem_of_getElem? (i := 187) rfl)) (by decide) (con_xi l Z a0 hw hEL x z e0 u0 k1 k2 k3 hst uu sn SU SN h0 O EX U F1 F2 F3 F4 F5 F6 F7 zx) pd__Ljava_lang_String__V (argsL := [(.ref z)]) (st := []) rfl rfl rfl rfl (by decide) (w := 0) (Nat.le_of_eq rfl) (by decide) (by decide) (by decide) (by simp) (fun q hq => Or.inl (List.mem_append_left _ hq)) ?_
  intro v457 T458 h459 S462 q460 W463
  have W461 := W463.sf (SF' := [x]) (fun _ hx => List.mem_append_right _ hx)
  obtain ⟨rfl, kq, eq_, mq, c1q, c2q⟩ := q460
  refine g_aloadN W461 dQ4_5 (pc' := 6) rfl rfl rfl ?_
  refine g_iloadN W461 dQ4_6 (pc' := 7) rfl rfl ?_
  refine g_putF W461 dQ4_7 (pc' := 10) rfl (hw _ (List.mem_of_getElem? (i := 231) rfl)) c1q eq_ (Or.inr ⟨(hw _ (List.mem_of_getElem? (i := 232) rfl)), rfl, rfl⟩) (hw _ (List.mem_of_getElem? (i := 179) rfl)) (ty := .int) (by decide) rfl rfl (by simp) (Or.inl (List.mem_append_right _ (by simp))) ?_
  intro T464 h465 w466 W467
  refine g_aloadN W467 dQ4_10 (pc' := 11) rfl rfl rfl ?_
  refine g_iloadN W467 dQ4_11 (pc' := 12) rfl rfl ?_
  refine g_putF W467 dQ4_12 (pc' := 15) rfl (hw _ (List.mem_of_getElem? (i := 233) rfl)) (c2q.other w466 (Or.inr hsu)) (eq_.wr w466) (Or.inr ⟨(hw _ (List.mem_of_getElem? (i := 234) rfl)), rfl, rfl⟩) (hw _ (List.mem_of_getElem? (i := 179) rfl)) (ty := .boolean) (by decide) rfl rfl (by simp) (Or.inl (List.mem_append_right _ (by simp))) ?_
  intro T468 h469 w470 W471
  exact g_return W471 dQ4_15 rfl ⟨rfl, ((kq.wr w466 (Or.inl (by simp))).wr w470 (Or.inl (by simp))), (eq_.wr w466).wr w470, (mq.other w466 (Or.inr (own_six_exitCode hw ("detailMessage", "Ljava/lang/String;") (by simp [Jvm.Free.Exc.sixNames])))).other w470 (Or.inr (own_six_showsUsage hw ("detailMessage", "Ljava/lang/String;") (by simp [Jvm.Free.Exc.sixNames]))), (c1q.same w466).other w470 (Or.inr (Ne.symm hsu)), (c2q.other w466 (Or.inr hsu)).same w470⟩
theorem own_lebase {Z : State} {x : Addr} {n : Nat} {q : Loc} (h : n ≤ x) (hq : q ∈ (sixLocs Z x ++ [(⟨x, RoadKit.slotOf Z "com/example/shardwright/shardwright/CommandException" "exitCode" "I"⟩ : Loc), (⟨x, RoadKit.slotOf Z "com/example/shardwright/shardwright/CommandException" "showsUsage" "Z"⟩ : Loc)])) : n ≤ q.base := by
  rcases List.mem_append.mp hq with hq | hq
  · simp only [sixLocs, List.mem_map] at hq
    obtain ⟨nd, -, rfl⟩ := hq
    exact h
  · simp only [List.mem_cons, List.not_mem_nil, or_false] at hq
    rcases hq with rfl | rfl <;> exact h
set_option maxRecDepth 65536 in
set_option maxHeartbeats 4000000 in
theorem con_def (l : Launch) (Z : State) (a0 : Array Value) (hw : ∀ d ∈ tables_1, d.before a0 Z = true) (hEL : EW Z a0 consts_1) (z : Addr) (hst : l.stackTraces = true) (uu sn : Addr) (SU : Sta Z Z.heap "java/lang/Throwable" "UNASSIGNED_STACK" "[Ljava/lang/StackTraceElement;" (.ref uu)) (SN : Sta Z Z.heap "java/lang/Throwable" "SUPPRESSED_SENTINEL" "Ljava/util/List;" (.ref sn)) (h0 : Heap) (O : Ext Z.heap h0) :
    Ocon l Z consts_1 (⟨"com/example/shardwright/shardwright/CommandException", "definition", "(Ljava/lang/String;)Lcom/example/shardwright/shardwright/CommandException;"⟩ : MethodName) prog_1_method_3_code 1 (some (.object "com/example/shardwright/shardwright/CommandException")) [] ({ frames := 6, cells := 2, slots := 2760, locals := 89 } : Room) #[(.ref z)] h0 [] [] (fun v h _ => ∃ x, v = some (.ref x) ∧ Ext h0 h ∧ Exa Z h x "com/example/shardwright/shardwright/CommandException" ∧ Fld Z h x "java/lang/Throwable" "detailMessage" "Ljava/lang/String;" (.ref z) ∧ Fld Z h x "com/example/shardwright/shardwright/CommandException" "exitCode" "I" (.int 2) ∧ Fld Z h x "com/example/shardwright/shardwright/CommandException" "showsUsage" "Z" (.int 0)) := by
  refine own_con (a0 := a0) hEL (plainFor_of_name pn_com_example_shardwright_shardwright_CommandException) ?_
  intro p e s m below meth c T hs W0
  have ef : entryFrame m #[(.ref z)] 1 = mkF m 0 #[.val (.ref z)] [] := own_entry m [(.ref z)] 1 (by simp [Value.category]) rfl
  rw [ef]
  refine g_new W0 dQ3_0 (pc' := 3) rfl (hw _ (List.mem_of_getElem? (i := 178) rfl)) (hw _ (List.mem_of_getElem? (i := 179) rfl)) (hw _ (List.mem_of_getElem? (i := 39) rfl)) (by decide) (by decide) ?_
  intro T472 h473 E474 A475 D476 U477 W478
  obtain ⟨a479, g480⟩ : ∃ z, z = h0.size := ⟨_, rfl⟩
  rw [← g480] at A475 D476 U477 W478 ⊢
  have nx : s.heap.size ≤ a479 := by rw [g480, hs]; exact Nat.le_refl _
  refine g_dup W478 dQ3_3 (pc' := 4) rfl rfl ?_
  refine g_iconst W478 dQ3_4 (pc' := 5) rfl (v := 2) rfl ?_
  refine g_iconst W478 dQ3_5 (pc' := 6) rfl (v := 0) rfl ?_
  refine g_aloadN W478 dQ3_6 (pc' := 7) rfl rfl rfl ?_
  refine g_special W478 dQ3_7 (pc' := 10) rfl rfl (hw _ (List.mem_of_getElem? (i := 180) rfl)) (hw _ (List.mem_of_getElem? (i := 181) rfl)) (hw _ (List.mem_of_getElem? (i := 39) rfl)) (hw _ (List.mem_of_getElem? (i := 182) rfl)) (by decide) (con_cin l Z a0 hw hEL a479 z _ _ _ _ _ hst uu sn SU SN h473 (own_ext_tr O E474) A475 U477 (D476 (Or.inr (hw _ (List.mem_of_getElem? (i := 232) rfl))) (ty := .int) (by decide)) (D476 (Or.inr (hw _ (List.mem_of_getElem? (i := 234) rfl))) (ty := .boolean) (by decide)) (D476 (Or.inl (hw _ (List.mem_of_getElem? (i := 227) rfl))) (ty := .object "java/lang/Object") (by decide)) (D476 (Or.inl (hw _ (List.mem_of_getElem? (i := 226) rfl))) (ty := .object "java/lang/String") (by decide)) (D476 (Or.inl (hw _ (List.mem_of_getElem? (i := 196) rfl))) (ty := .object "java/lang/Throwable") (by decide)) (D476 (Or.inl (hw _ (List.mem_of_getElem? (i := 199) rfl))) (ty := .array (.object "java/lang/StackTraceElement")) (by decide)) (D476 (Or.inl (hw _ (List.mem_of_getElem? (i := 202) rfl))) (ty := .object "java/util/List") (by decide)) (by rw [g480]; exact O.1)) pd__IZLjava_lang_String__V (argsL := [(.int (2 : Int32)), (.int (0 : Int32)), (.ref z)]) (st := [(.ref a479)]) rfl rfl rfl rfl (by decide) (w := 1) (Nat.le_of_eq rfl) (by decide) (by decide) (by decide) (by simp) (fun q hq => Or.inr (own_lebase nx hq)) ?_
  intro v481 T482 h483 S486 q484 W487
  have W485 := W487.sf (SF' := [a479]) (fun _ hx => List.mem_append_right _ hx)
  obtain ⟨rfl, qK, qX⟩ := q484
  have X3 := own_ext_keep E474 qK (by intro y hy; rw [List.mem_singleton.mp hy, g480]; exact Nat.le_refl _)
  exact g_aret W485 dQ3_10 rfl rfl rfl rfl ⟨a479, rfl, X3, qX⟩
def own_txt0 : String := own_text 106
abbrev own_t0 : List Int32 := [58, 32, 116, 104, 101, 32, 100, 101, 102, 105, 110, 105, 116, 105, 111, 110, 32, 115, 97, 121, 115, 32]
theorem own_ht0 : (∀ c ∈ own_txt0.toList, c.toNat < 256) ∧ own_txt0.toList.map (fun c => Value.int (Jvm.Lit.byteI c.toNat.toUInt16)) = own_t0.map fun c => Value.int (StrChars.lo8 c) := ⟨by decide +kernel, by decide +kernel⟩
theorem own_hn0 : 4 * own_txt0.toList.length ≤ 88 := by decide +kernel
theorem own_hb0 : ∀ c ∈ own_t0, ¬ c < 0 ∧ ¬ (255 : Int32) < c := by decide +kernel
def own_txt1 : String := own_text 132
abbrev own_t1 : List Int32 := [44, 32, 98, 117, 116, 32]
theorem own_ht1 : (∀ c ∈ own_txt1.toList, c.toNat < 256) ∧ own_txt1.toList.map (fun c => Value.int (Jvm.Lit.byteI c.toNat.toUInt16)) = own_t1.map fun c => Value.int (StrChars.lo8 c) := ⟨by decide +kernel, by decide +kernel⟩
theorem own_hn1 : 4 * own_txt1.toList.length ≤ 24 := by decide +kernel
theorem own_hb1 : ∀ c ∈ own_t1, ¬ c < 0 ∧ ¬ (255 : Int32) < c := by decide +kernel
set_option maxRecDepth 65536 in
set_option maxHeartbeats 4000000 in
theorem con_mis (l : Launch) (Z : State) (a0 : Array Value) (hw : ∀ d ∈ tables_1, d.before a0 Z = true) (hEL : EW Z a0 consts_1) (zc : Int32) (SC : Sta Z Z.heap "java/lang/String" "COMPACT_STRINGS" "Z" (.int zc)) (hzc : ¬ zc = 0) (hst : l.stackTraces = true) (uu sn : Addr) (SU : Sta Z Z.heap "java/lang/Throwable" "UNASSIGNED_STACK" "[Ljava/lang/StackTraceElement;" (.ref uu)) (SN : Sta Z Z.heap "java/lang/Throwable" "SUPPRESSED_SENTINEL" "Ljava/util/List;" (.ref sn)) (h0 : Heap) (O : Ext Z.heap h0) (y0 : Addr) (c0 : List Int32) (S0 : OLat Z h0 y0 c0) (l0 : c0.length = 2) (y1 : Addr) (c1 : List Int32) (S1 : OLat Z h0 y1 c1) (l1 : c1.length = 2) (y2 : Addr) (c2 : List Int32) (S2 : OLat Z h0 y2 c2) (l2 : c2.length = 2) :
    Ocon l Z consts_1 (⟨"com/example/shardwright/shardwright/CommandException", "misfit", "(Ljava/lang/String;Ljava/lang/String;Ljava/lang/String;)Lcom/example/shardwright/shardwright/CommandException;"⟩ : MethodName) prog_1_method_4_code 3 (some (.object "com/example/shardwright/shardwright/CommandException")) [] ({ frames := 7, cells := 16, slots := 3108, locals := 102 } : Room) #[(.ref y0), (.ref y1), (.ref y2)] h0 [] [] (fun v h _ => ∃ ex z, v = some (.ref ex) ∧ Ext h0 h ∧ OLat Z h z (((([] ++ c0 ++ own_t0) ++ c1) ++ own_t1) ++ c2) ∧ Exa Z h ex "com/example/shardwright/shardwright/CommandException" ∧ Fld Z h ex "java/lang/Throwable" "detailMessage" "Ljava/lang/String;" (.ref z) ∧ Fld Z h ex "com/example/shardwright/shardwright/CommandException" "exitCode" "I" (.int 2) ∧ Fld Z h ex "com/example/shardwright/shardwright/CommandException" "showsUsage" "Z" (.int 0)) := by
  refine own_con (a0 := a0) hEL (plainFor_of_name pn_com_example_shardwright_shardwright_CommandException) ?_
  intro p e s m below meth c T hs W0
  have ef : entryFrame m #[(.ref y0), (.ref y1), (.ref y2)] 3 = mkF m 0 #[.val (.ref y0), .val (.ref y1), .val (.ref y2)] [] := own_entry m [(.ref y0), (.ref y1), (.ref y2)] 3 (by simp [Value.category]) rfl
  rw [ef]
  refine g_new W0 dQ2_0 (pc' := 3) rfl (hw _ (List.mem_of_getElem? (i := 41) rfl)) (hw _ (List.mem_of_getElem? (i := 42) rfl)) (hw _ (List.mem_of_getElem? (i := 43) rfl)) (by decide) (by decide) ?_
  intro T488 h489 E490 A491 D492 U493 W494
  obtain ⟨a495, g496⟩ : ∃ z, z = h0.size := ⟨_, rfl⟩
  rw [← g496] at A491 D492 U493 W494 ⊢
  have nx : s.heap.size ≤ a495 := by rw [g496, hs]; exact Nat.le_refl _
  have zx : Z.heap.size ≤ a495 := by rw [g496]; exact O.1
  refine g_dup W494 dQ2_3 (pc' := 4) rfl rfl ?_
  refine g_special W494 dQ2_4 (pc' := 7) rfl rfl (hw _ (List.mem_of_getElem? (i := 44) rfl)) (hw _ (List.mem_of_getElem? (i := 45) rfl)) (hw _ (List.mem_of_getElem? (i := 43) rfl)) (hw _ (List.mem_of_getElem? (i := 46) rfl)) (by decide) (con_sbi l Z a0 hw hEL a495 _ _ zc SC hzc h489 (own_ext_tr O E490) A491 (D492 (Or.inl (hw _ (List.mem_of_getElem? (i := 56) rfl))) (ty := .array .byte) (by decide)) (D492 (Or.inl (hw _ (List.mem_of_getElem? (i := 58) rfl))) (ty := .byte) (by decide)) (D492 (Or.inl (hw _ (List.mem_of_getElem? (i := 80) rfl))) (ty := .int) (by decide))) pd___V (argsL := []) (st := [(.ref a495)]) rfl rfl rfl rfl (by decide) (w := 1) (Nat.le_of_eq rfl) (by decide) (by decide) (by decide) (by simp) (fun q hq => Or.inr (by rcases List.mem_cons.mp hq with rfl | hq; exact nx; cases List.mem_singleton.mp hq; exact nx)) ?_
  intro v497 T498 h499 S502 q500 W503
  obtain ⟨rfl, t0, kb0, qK, nt0, tS0, SB0⟩ := q500
  have X0 := own_ext_keep E490 qK (by intro y hy; rw [List.mem_singleton.mp hy, g496]; exact Nat.le_refl _)
  have nt0' : s.heap.size ≤ t0 := by rw [hs]; exact Nat.le_trans E490.1 nt0
  have Wk0 := W503.sf (SF' := [t0, a495]) (by intro y hy; simp only [List.mem_cons, List.not_mem_nil, or_false] at hy; rcases hy with rfl | rfl; exact List.mem_append_left _ tS0; exact List.mem_append_right _ (by simp))
  refine g_aloadN Wk0 dQ2_7 (pc' := 8) rfl rfl rfl ?_
  refine g_virtual Wk0 dQ2_8 (pc' := 11) (C := "java/lang/StringBuilder") rfl (hw _ (List.mem_of_getElem? (i := 59) rfl)) (hw _ (List.mem_of_getElem? (i := 60) rfl)) (y7 := (⟨"java/lang/StringBuilder", "append", "(Ljava/lang/String;)Ljava/lang/StringBuilder;"⟩ : MethodName)) rfl (hw _ (List.mem_of_getElem? (i := 62) rfl)) (hw _ (List.mem_of_getElem? (i := 62) rfl)) (hw _ (List.mem_of_getElem? (i := 61) rfl)) (hw _ (List.mem_of_getElem? (i := 43) rfl)) (hw _ (List.mem_of_getElem? (i := 63) rfl)) (by decide) SB0.1 (con_sba0 l Z a0 hw hEL a495 y0 t0 kb0 [] c0 16 zc SC hzc h499 (own_ext_tr O X0) (S0.ext X0) SB0 (by simp [l0, l1, l2]) (by decide)) pd__Ljava_lang_String__Ljava_lang_StringBuilder_ (argsL := [(.ref y0)]) (st := []) rfl rfl rfl rfl (by decide) (w := 0) (Nat.le_of_eq rfl) (by decide) (by decide) (by decide) (by simp) (fun q hq => Or.inr (by rcases List.mem_append.mp hq with hq | hq; (rcases List.mem_cons.mp hq with rfl | hq; exact nx; cases List.mem_singleton.mp hq; exact nx); (obtain ⟨i, -, rfl⟩ := List.mem_map.mp hq; exact nt0'))) ?_
  intro v504 T505 h506 S509 q507 W510
  obtain ⟨rfl, t1, kb1, ht1, tS1, qK1, SB1⟩ := q507
  have X1 := own_ext_keep X0 qK1 (by intro y hy; simp only [List.mem_cons, List.not_mem_nil, or_false] at hy; rw [← hs]; rcases hy with rfl | rfl; exact nx; exact nt0')
  have nt1' : s.heap.size ≤ t1 := by rcases ht1 with z | z; (rw [z]; exact nt0'); (rw [hs]; exact Nat.le_trans X0.1 z)
  have Wk1 := W510.sf (SF' := [t1, a495]) (by intro y hy; simp only [List.mem_cons, List.not_mem_nil, or_false] at hy; rcases hy with rfl | rfl; exact List.mem_append_left _ tS1; exact List.mem_append_right _ (by simp))
  refine g_ldcS Wk1 dQ2_11 (pc' := 13) (text := own_txt0) (vs := own_t0.map fun c => Value.int (StrChars.lo8 c)) (z := 22) (n := 88) rfl (hw _ (List.mem_of_getElem? (i := 106) rfl)) (own_str hw) (by decide) own_ht0 (by decide) rfl own_hn0 (by decide) (by decide) (by decide) ?_
  intro T511 h512 a513 b514 k515 E516 f517 f518 f519 f520 W521
  have X522 := own_ext_tr X1 E516
  have S523 : OLat Z h512 a513 own_t0 := ⟨f517, own_hb0, b514, k515, f519, f518, f520⟩
  have Q524 := SB1.ext E516
  refine g_virtual W521 dQ2_13 (pc' := 16) (C := "java/lang/StringBuilder") rfl (hw _ (List.mem_of_getElem? (i := 59) rfl)) (hw _ (List.mem_of_getElem? (i := 60) rfl)) (y7 := (⟨"java/lang/StringBuilder", "append", "(Ljava/lang/String;)Ljava/lang/StringBuilder;"⟩ : MethodName)) rfl (hw _ (List.mem_of_getElem? (i := 62) rfl)) (hw _ (List.mem_of_getElem? (i := 62) rfl)) (hw _ (List.mem_of_getElem? (i := 61) rfl)) (hw _ (List.mem_of_getElem? (i := 43) rfl)) (hw _ (List.mem_of_getElem? (i := 63) rfl)) (by decide) Q524.1 (con_sba1 l Z a0 hw hEL a495 a513 t1 kb1 ([] ++ c0) own_t0 zc SC hzc h512 (own_ext_tr O X522) S523 Q524 (by simp [l0]) (by decide) zx) pd__Ljava_lang_String__Ljava_lang_StringBuilder_ (argsL := [(.ref a513)]) (st := []) rfl rfl rfl rfl (by decide) (w := 0) (Nat.le_of_eq rfl) (by decide) (by decide) (by decide) (by simp) (fun q hq => Or.inr (by rcases List.mem_cons.mp hq with rfl | hq; exact nx; cases List.mem_singleton.mp hq; exact nx)) ?_
  intro v525 T526 h527 S530 q528 W531
  obtain ⟨rfl, t2, kb2, ht2, tS2, qK2, SB2⟩ := q528
  have X2 := own_ext_keep X522 qK2 (by intro y hy; simp only [List.mem_cons, List.not_mem_nil, or_false] at hy; rw [← hs]; rcases hy with rfl | rfl; exact nx; exact nt1')
  have nt2' : s.heap.size ≤ t2 := by rcases ht2 with z | z; (rw [z]; exact nt1'); (rw [hs]; exact Nat.le_trans X522.1 z)
  have Wk2 := W531.sf (SF' := [t2, a495]) (by intro y hy; simp only [List.mem_cons, List.not_mem_nil, or_false] at hy; rcases hy with rfl | rfl; exact List.mem_append_left _ tS2; exact List.mem_append_right _ (by simp))
  refine g_aloadN Wk2 dQ2_16 (pc' := 17) rfl rfl rfl ?_
  refine g_virtual Wk2 dQ2_17 (pc' := 20) (C := "java/lang/StringBuilder") rfl (hw _ (List.mem_of_getElem? (i := 59) rfl)) (hw _ (List.mem_of_getElem? (i := 60) rfl)) (y7 := (⟨"java/lang/StringBuilder", "append", "(Ljava/lang/String;)Ljava/lang/StringBuilder;"⟩ : MethodName)) rfl (hw _ (List.mem_of_getElem? (i := 62) rfl)) (hw _ (List.mem_of_getElem? (i := 62) rfl)) (hw _ (List.mem_of_getElem? (i := 61) rfl)) (hw _ (List.mem_of_getElem? (i := 43) rfl)) (hw _ (List.mem_of_getElem? (i := 63) rfl)) (by decide) SB2.1 (con_sba0 l Z a0 hw hEL a495 y1 t2 kb2 (([] ++ c0) ++ own_t0) c1 34 zc SC hzc h527 (own_ext_tr O X2) (S1.ext X2) SB2 (by simp [l0, l1, l2]) (by decide)) pd__Ljava_lang_String__Ljava_lang_StringBuilder_ (argsL := [(.ref y1)]) (st := []) rfl rfl rfl rfl (by decide) (w := 0) (Nat.le_of_eq rfl) (by decide) (by decide) (by decide) (by simp) (fun q hq => Or.inr (by rcases List.mem_append.mp hq with hq | hq; (rcases List.mem_cons.mp hq with rfl | hq; exact nx; cases List.mem_singleton.mp hq; exact nx); (obtain ⟨i, -, rfl⟩ := List.mem_map.mp hq; exact nt2'))) ?_
  intro v532 T533 h534 S537 q535 W538
  obtain ⟨rfl, t3, kb3, ht3, tS3, qK3, SB3⟩ := q535
  have X3 := own_ext_keep X2 qK3 (by intro y hy; simp only [List.mem_cons, List.not_mem_nil, or_false] at hy; rw [← hs]; rcases hy with rfl | rfl; exact nx; exact nt2')
  have nt3' : s.heap.size ≤ t3 := by rcases ht3 with z | z; (rw [z]; exact nt2'); (rw [hs]; exact Nat.le_trans X2.1 z)
  have Wk3 := W538.sf (SF' := [t3, a495]) (by intro y hy; simp only [List.mem_cons, List.not_mem_nil, or_false] at hy; rcases hy with rfl | rfl; exact List.mem_append_left _ tS3; exact List.mem_append_right _ (by simp))
  refine g_ldcS Wk3 dQ2_20 (pc' := 22) (text := own_txt1) (vs := own_t1.map fun c => Value.int (StrChars.lo8 c)) (z := 6) (n := 24) rfl (hw _ (List.mem_of_getElem? (i := 132) rfl)) (own_str hw) (by decide) own_ht1 (by decide) rfl own_hn1 (by decide) (by decide) (by decide) ?_
  intro T539 h540 a541 b542 k543 E544 f545 f546 f547 f548 W549
  have X550 := own_ext_tr X3 E544
  have S551 : OLat Z h540 a541 own_t1 := ⟨f545, own_hb1, b542, k543, f547, f546, f548⟩
  have Q552 := SB3.ext E544
  refine g_virtual W549 dQ2_22 (pc' := 25) (C := "java/lang/StringBuilder") rfl (hw _ (List.mem_of_getElem? (i := 59) rfl)) (hw _ (List.mem_of_getElem? (i := 60) rfl)) (y7 := (⟨"java/lang/StringBuilder", "append", "(Ljava/lang/String;)Ljava/lang/StringBuilder;"⟩ : MethodName)) rfl (hw _ (List.mem_of_getElem? (i := 62) rfl)) (hw _ (List.mem_of_getElem? (i := 62) rfl)) (hw _ (List.mem_of_getElem? (i := 61) rfl)) (hw _ (List.mem_of_getElem? (i := 43) rfl)) (hw _ (List.mem_of_getElem? (i := 63) rfl)) (by decide) Q552.1 (con_sba0 l Z a0 hw hEL a495 a541 t3 kb3 ((([] ++ c0) ++ own_t0) ++ c1) own_t1 34 zc SC hzc h540 (own_ext_tr O X550) S551 Q552 (by simp [l0, l1, l2]) (by decide)) pd__Ljava_lang_String__Ljava_lang_StringBuilder_ (argsL := [(.ref a541)]) (st := []) rfl rfl rfl rfl (by decide) (w := 0) (Nat.le_of_eq rfl) (by decide) (by decide) (by decide) (by simp) (fun q hq => Or.inr (by rcases List.mem_append.mp hq with hq | hq; (rcases List.mem_cons.mp hq with rfl | hq; exact nx; cases List.mem_singleton.mp hq; exact nx); (obtain ⟨i, -, rfl⟩ := List.mem_map.mp hq; exact nt3'))) ?_
  intro v553 T554 h555 S558 q556 W559
  obtain ⟨rfl, t4, kb4, ht4, tS4, qK4, SB4⟩ := q556
  have X4 := own_ext_keep X550 qK4 (by intro y hy; simp only [List.mem_cons, List.not_mem_nil, or_false] at hy; rw [← hs]; rcases hy with rfl | rfl; exact nx; exact nt3')
  have nt4' : s.heap.size ≤ t4 := by rcases ht4 with z | z; (rw [z]; exact nt3'); (rw [hs]; exact Nat.le_trans X550.1 z)
  have Wk4 := W559.sf (SF' := [t4, a495]) (by intro y hy; simp only [List.mem_cons, List.not_mem_nil, or_false] at hy; rcases hy with rfl | rfl; exact List.mem_append_left _ tS4; exact List.mem_append_right _ (by simp))
  refine g_aloadN Wk4 dQ2_25 (pc' := 26) rfl rfl rfl ?_
  refine g_virtual Wk4 dQ2_26 (pc' := 29) (C := "java/lang/StringBuilder") rfl (hw _ (List.mem_of_getElem? (i := 59) rfl)) (hw _ (List.mem_of_getElem? (i := 60) rfl)) (y7 := (⟨"java/lang/StringBuilder", "append", "(Ljava/lang/String;)Ljava/lang/StringBuilder;"⟩ : MethodName)) rfl (hw _ (List.mem_of_getElem? (i := 62) rfl)) (hw _ (List.mem_of_getElem? (i := 62) rfl)) (hw _ (List.mem_of_getElem? (i := 61) rfl)) (hw _ (List.mem_of_getElem? (i := 43) rfl)) (hw _ (List.mem_of_getElem? (i := 63) rfl)) (by decide) SB4.1 (con_sba0 l Z a0 hw hEL a495 y2 t4 kb4 (((([] ++ c0) ++ own_t0) ++ c1) ++ own_t1) c2 34 zc SC hzc h555 (own_ext_tr O X4) (S2.ext X4) SB4 (by simp [l0, l1, l2]) (by decide)) pd__Ljava_lang_String__Ljava_lang_StringBuilder_ (argsL := [(.ref y2)]) (st := []) rfl rfl rfl rfl (by decide) (w := 0) (Nat.le_of_eq rfl) (by decide) (by decide) (by decide) (by simp) (fun q hq => Or.inr (by rcases List.mem_append.mp hq with hq | hq; (rcases List.mem_cons.mp hq with rfl | hq; exact nx; cases List.mem_singleton.mp hq; exact nx); (obtain ⟨i, -, rfl⟩ := List.mem_map.mp hq; exact nt4'))) ?_
  intro v560 T561 h562 S565 q563 W566
  obtain ⟨rfl, t5, kb5, ht5, tS5, qK5, SB5⟩ := q563
  have X5 := own_ext_keep X4 qK5 (by intro y hy; simp only [List.mem_cons, List.not_mem_nil, or_false] at hy; rw [← hs]; rcases hy with rfl | rfl; exact nx; exact nt4')
  have nt5' : s.heap.size ≤ t5 := by rcases ht5 with z | z; (rw [z]; exact nt4'); (rw [hs]; exact Nat.le_trans X4.1 z)
  have Wk5 := W566.sf (SF' := [t5, a495]) (by intro y hy; simp only [List.mem_cons, List.not_mem_nil, or_false] at hy; rcases hy with rfl | rfl; exact List.mem_append_left _ tS5; exact List.mem_append_right _ (by simp))
  have hlen : ((((([] ++ c0) ++ own_t0) ++ c1) ++ own_t1) ++ c2).length = 34 := by simp [l0, l1, l2]
  have hbb : ∀ c ∈ ((((([] ++ c0) ++ own_t0) ++ c1) ++ own_t1) ++ c2), ¬ c < 0 ∧ ¬ (255 : Int32) < c := own_bapp (own_bapp (own_bapp (own_bapp (own_bapp own_b0 S0.2.1) own_hb0) S1.2.1) own_hb1) S2.2.1
  refine g_virtual Wk5 dQ2_29 (pc' := 32) (C := "java/lang/StringBuilder") rfl (hw _ (List.mem_of_getElem? (i := 133) rfl)) (hw _ (List.mem_of_getElem? (i := 134) rfl)) (y7 := (⟨"java/lang/StringBuilder", "append", "(Ljava/lang/String;)Ljava/lang/StringBuilder;"⟩ : MethodName)) rfl (hw _ (List.mem_of_getElem? (i := 62) rfl)) (hw _ (List.mem_of_getElem? (i := 136) rfl)) (hw _ (List.mem_of_getElem? (i := 135) rfl)) (hw _ (List.mem_of_getElem? (i := 43) rfl)) (hw _ (List.mem_of_getElem? (i := 137) rfl)) (by decide) SB5.1 (con_tst l Z a0 hw hEL a495 t5 kb5 ((((([] ++ c0) ++ own_t0) ++ c1) ++ own_t1) ++ c2) zc SC hzc h562 (own_ext_tr O X5) SB5 hlen hbb) pd___Ljava_lang_String_ (argsL := []) (st := []) rfl rfl rfl rfl (by decide) (w := 0) (Nat.le_of_eq rfl) (by decide) (by decide) (by decide) (by simp) (fun q hq => nomatch hq) ?_
  intro v567 T568 h569 S572 q570 W573
  have W571 := W573.sf (SF' := [t5, a495]) (fun _ hx => List.mem_append_right _ hx)
  obtain ⟨zz, rfl, XZ, SZ⟩ := q570
  have XY := own_ext_tr X5 XZ
  refine g_static W571 dQ2_32 (pc' := 35) rfl (hw _ (List.mem_of_getElem? (i := 175) rfl)) (hw _ (List.mem_of_getElem? (i := 176) rfl)) (hw _ (List.mem_of_getElem? (i := 39) rfl)) (hw _ (List.mem_of_getElem? (i := 177) rfl)) (by decide) (con_def l Z a0 hw hEL zz hst uu sn SU SN h569 (own_ext_tr O XY)) pd__Ljava_lang_String__Lcom_example_shardwright_shardwright_CommandException_ (argsL := [(.ref zz)]) (st := []) rfl rfl rfl rfl (by decide) (w := 0) (Nat.le_of_eq rfl) (by decide) (by decide) (by decide) (by simp) (fun q hq => nomatch hq) ?_
  intro v574 T575 h576 S579 q577 W580
  have W578 := W580.sf (SF' := [t5, a495]) (fun _ hx => List.mem_append_right _ hx)
  obtain ⟨ex, rfl, XE, eE, eM, eC, eU⟩ := q577
  exact g_aret W578 dQ2_35 rfl rfl rfl rfl ⟨ex, zz, rfl, own_ext_tr XY XE, SZ.ext XE, eE, eM, eC, eU⟩
set_option maxRecDepth 65536 in
set_option maxHeartbeats 4000000 in
theorem con_gm (l : Launch) (Z : State) (a0 : Array Value) (hw : ∀ d ∈ tables_1, d.before a0 Z = true) (hEL : EW Z a0 consts_1) (x z : Addr) (h0 : Heap) (F : Fld Z h0 x "java/lang/Throwable" "detailMessage" "Ljava/lang/String;" (.ref z)) :
    Ocon l Z consts_1 (⟨"java/lang/Throwable", "getMessage", "()Ljava/lang/String;"⟩ : MethodName) jdk_78_method_6_code 1 (some (.object "java/lang/String")) [] ({ frames := 0, cells := 0, slots := 0, locals := 0 } : Room) #[(.ref x)] h0 [] [] (fun v h _ => v = some (.ref z) ∧ h0 = h) := by
  refine own_con (a0 := a0) hEL (plainFor_of_name pn_java_lang_Throwable) ?_
  intro p e s m below meth c T hs W0
  have ef : entryFrame m #[(.ref x)] 1 = mkF m 0 #[.val (.ref x)] [] := own_entry m [(.ref x)] 1 (by simp [Value.category]) rfl
  rw [ef]
  refine g_aloadN W0 dQ7_0 (pc' := 1) rfl rfl rfl ?_
  refine g_getF W0 dQ7_1 (pc' := 4) rfl (hw _ (List.mem_of_getElem? (i := 230) rfl)) F ?_
  intro T582 W581
  exact g_aret W581 dQ7_4 rfl rfl rfl rfl ⟨rfl, rfl⟩
set_option maxRecDepth 65536 in
set_option maxHeartbeats 4000000 in
theorem con_xc (l : Launch) (Z : State) (a0 : Array Value) (hw : ∀ d ∈ tables_1, d.before a0 Z = true) (hEL : EW Z a0 consts_1) (x : Addr) (h0 : Heap) (F : Fld Z h0 x "com/example/shardwright/shardwright/CommandException" "exitCode" "I" (.int 2)) :
    Ocon l Z consts_1 (⟨"com/example/shardwright/shardwright/CommandException", "exitCode", "()I"⟩ : MethodName) prog_1_method_7_code 1 (some .int) [] ({ frames := 0, cells := 0, slots := 0, locals := 0 } : Room) #[(.ref x)] h0 [] [] (fun v h _ => v = some (.int 2) ∧ h0 = h) := by
  refine own_con (a0 := a0) hEL (plainFor_of_name pn_com_example_shardwright_shardwright_CommandException) ?_
  intro p e s m below meth c T hs W0
  have ef : entryFrame m #[(.ref x)] 1 = mkF m 0 #[.val (.ref x)] [] := own_entry m [(.ref x)] 1 (by simp [Value.category]) rfl
  rw [ef]
  refine g_aloadN W0 dQ5_0 (pc' := 1) rfl rfl rfl ?_
  refine g_getF W0 dQ5_1 (pc' := 4) rfl (hw _ (List.mem_of_getElem? (i := 231) rfl)) F ?_
  intro T584 W583
  exact g_iret W583 dQ5_4 rfl (Or.inl rfl) rfl ⟨rfl, rfl⟩
set_option maxRecDepth 65536 in
set_option maxHeartbeats 4000000 in
theorem con_su (l : Launch) (Z : State) (a0 : Array Value) (hw : ∀ d ∈ tables_1, d.before a0 Z = true) (hEL : EW Z a0 consts_1) (x : Addr) (h0 : Heap) (F : Fld Z h0 x "com/example/shardwright/shardwright/CommandException" "showsUsage" "Z" (.int 0)) :
    Ocon l Z consts_1 (⟨"com/example/shardwright/shardwright/CommandException", "showsUsage", "()Z"⟩ : MethodName) prog_1_method_8_code 1 (some .boolean) [] ({ frames := 0, cells := 0, slots := 0, locals := 0 } : Room) #[(.ref x)] h0 [] [] (fun v h _ => v = some (.int 0) ∧ h0 = h) := by
  refine own_con (a0 := a0) hEL (plainFor_of_name pn_com_example_shardwright_shardwright_CommandException) ?_
  intro p e s m below meth c T hs W0
  have ef : entryFrame m #[(.ref x)] 1 = mkF m 0 #[.val (.ref x)] [] := own_entry m [(.ref x)] 1 (by simp [Value.category]) rfl
  rw [ef]
  refine g_aloadN W0 dQ6_0 (pc' := 1) rfl rfl rfl ?_
  refine g_getF W0 dQ6_1 (pc' := 4) rfl (hw _ (List.mem_of_getElem? (i := 233) rfl)) F ?_
  intro T586 W585
  exact g_iret W585 dQ6_4 rfl (Or.inr (Or.inl rfl)) rfl ⟨rfl, rfl⟩
theorem own_tk {s : State} (h : tablesKnown s = true) : s.vm.MethodsKnown := fun m x hx => by
  unfold Vm.method? at hx
  cases hk : s.vm.classes[m.cls]? with
  | none => simp [hk] at hx
  | some k =>
    refine ⟨k, hk, fun cf hcf => ?_⟩
    simp [hk] at hx
    obtain ⟨hi, rfl⟩ := Array.getElem?_eq_some_iff.mp hk
    have q := (Array.all_eq_true_iff_forall_mem.mp h) _ (Array.getElem_mem hi)
    rw [hcf] at q
    have q : s.vm.classes[m.cls].methods.size = cf.methods.size := by simpa using q
    obtain ⟨hj, -⟩ := Array.getElem?_eq_some_iff.mp hx
    rw [Array.getElem?_eq_getElem (by omega)]; rfl
theorem own_mk_ {vm : Vm} {m : MethodId} (h : methodKnown vm m = true) : vm.knowsMethod m := by
  unfold methodKnown at h
  cases hk : vm.classes[m.cls]? with
  | none => rw [hk] at h; cases h
  | some k =>
    refine ⟨k, hk, fun cf hcf => ?_⟩
    rw [hk] at h
    simp only [hcf] at h
    exact h
theorem own_fk {s : State} {f : Frame} {below : List Frame} (hf : s.frames = f :: below) (h : framesKnown s = true) : s.vm.FramesKnown below := fun y hy m' hm => by
  have q := List.all_eq_true.mp h y (by rw [hf]; exact List.mem_cons_of_mem _ hy)
  cases y <;> simp [frameMethod?] at hm <;> (subst hm; exact own_mk_ q)
theorem OLat.str {Z : State} {h : Heap} {x : Addr} {cs : List Int32} (S : OLat Z h x cs) : OStr Z h x cs := by
  obtain ⟨s1, s2, t, kb, s3, s4, s5⟩ := S
  exact ⟨s1, own_b16 s2, t, kb, 0, _, _, s3, s4, s5, Or.inl ⟨rfl, rfl, rfl, fun c hc => (s2 c hc).2⟩⟩
theorem own_weq : ∀ d ∈ StrChars.Road.wordsEq, d ∈ tables_1 := by decide +kernel
set_option maxRecDepth 65536 in
set_option maxHeartbeats 4000000 in
theorem con_law (l : Launch) (Z : State) (a0 : Array Value) (hw : ∀ d ∈ tables_1, d.before a0 Z = true) (hEL : EW Z a0 consts_1) (zc : Int32) (SC : Sta Z Z.heap "java/lang/String" "COMPACT_STRINGS" "Z" (.int zc)) (hzc : ¬ zc = 0) (hst : l.stackTraces = true) (uu sn : Addr) (SU : Sta Z Z.heap "java/lang/Throwable" "UNASSIGNED_STACK" "[Ljava/lang/StackTraceElement;" (.ref uu)) (SN : Sta Z Z.heap "java/lang/Throwable" "SUPPRESSED_SENTINEL" "Ljava/util/List;" (.ref sn)) (p1 p2 p3 : Int32) (h0 : Heap) (O : Ext Z.heap h0) :
    Ocon l Z consts_1 Jvm.Pilot.@@N@@.x code maxLocals ret tables_1 room_1 #[(.int p1), (.int p2), (.int p3)] h0 [] [] (fun v h _ => v = some (.int 1)) := by
  refine own_con (a0 := a0) hEL (plainFor_of_name pn_com_example_shardwright_shardwright_CommandExceptionMisfitPinLaw) ?_
  intro p e s m below meth c T0 hs W00
  have W00 : Owk p l e room_1 s m #[(.int p1), (.int p2), (.int p3)] below meth c Z a0 consts_1 [] "com/example/shardwright/shardwright/CommandExceptionMisfitPinLaw" "law" code maxLocals ret T0 h0 [] 0 0 := W00
  show Ogo p l e room_1 s m #[(.int p1), (.int p2), (.int p3)] below meth c Z a0 consts_1 [] "com/example/shardwright/shardwright/CommandExceptionMisfitPinLaw" "law" code maxLocals ret T0 _ _
  have s35 : ∀ (T : State) (q0 q1 q2 q3 q4 q5 : Int32), (∀ c ∈ [q0, q1, q2, q3, q4, q5], ¬ c < 0 ∧ ¬ (255 : Int32) < c) → Owk p l e room_1 s m #[(.int p1), (.int p2), (.int p3)] below meth c Z a0 consts_1 [] "com/example/shardwright/shardwright/CommandExceptionMisfitPinLaw" "law" code maxLocals ret T h0 [] 0 0 → Ogo p l e room_1 s m #[(.int p1), (.int p2), (.int p3)] below meth c Z a0 consts_1 [] "com/example/shardwright/shardwright/CommandExceptionMisfitPinLaw" "law" code maxLocals ret T (mkF m 35 #[.val (.int p1), .val (.int p2), .val (.int p3), .val (.int q0), .val (.int q1), .val (.int q2), .val (.int q3), .val (.int q4), .val (.int q5), .unset, .unset, .unset, .unset, .unset, .unset] []) (fun v h _ => v = some (.int 1)) := by
    intro T q0 q1 q2 q3 q4 q5 hq W0
    refine g_new W0 at_35 (pc' := 38) rfl (hw _ (List.mem_of_getElem? (i := 7) rfl)) (hw _ (List.mem_of_getElem? (i := 8) rfl)) (hw _ (List.mem_of_getElem? (i := 9) rfl)) (by decide) (by decide) ?_
    intro T587 h588 E589 A590 D591 U592 W593
    obtain ⟨a594, g595⟩ : ∃ z, z = h0.size := ⟨_, rfl⟩
    rw [← g595] at A590 D591 U592 W593 ⊢
    have nxa594 : s.heap.size ≤ a594 := by rw [g595]; exact W0.grown
    have zxa594 : Z.heap.size ≤ a594 := by rw [g595]; exact (own_ext_tr O (own_ext_rf h0)).1
    refine g_dup W593 at_38 (pc' := 39) rfl rfl ?_
    refine g_iconst W593 at_39 (pc' := 40) rfl (v := 2) rfl ?_
    refine g_newP W593 at_40 (pc' := 42) (cap := 2) rfl (ty := .char) (dv := (.int 0)) rfl rfl (hw _ (List.mem_of_getElem? (i := 10) rfl)) (by decide) (by decide) (by decide) (by decide) (by decide) ?_
    intro T596 h597 cA598 E599 A600 W601
    obtain ⟨a602, g603⟩ : ∃ z, z = h588.size := ⟨_, rfl⟩
    rw [← g603] at A600 W601 ⊢
    have naa602 : s.heap.size ≤ a602 := by rw [g603]; exact W593.grown
    refine g_dup W601 at_42 (pc' := 43) rfl rfl ?_
    refine g_iconst W601 at_43 (pc' := 44) rfl (v := 0) rfl ?_
    refine g_iloadN W601 at_44 (pc' := 45) rfl rfl ?_
    refine g_castore W601 at_45 (pc' := 46) rfl (own_pad0 2 A600) (i := 0) rfl (by decide) (by simp) (y := q0) (own_nar8 (hq q0 (by simp))) (vs' := [(.int q0), (.int (0 : Int32))]) rfl (by simp) (Or.inr naa602) ?_
    intro T604 h605 w606 A607 W608
    have X609 := own_ext_wr E599 w606 (by rw [g603]; exact Nat.le_refl _)
    refine g_dup W608 at_46 (pc' := 47) rfl rfl ?_
    refine g_iconst W608 at_47 (pc' := 48) rfl (v := 1) rfl ?_
    refine g_iload W608 at_48 (pc' := 50) rfl rfl ?_
    refine g_castore W608 at_50 (pc' := 51) rfl A607 (i := 1) rfl (by decide) (by simp) (y := q1) (own_nar8 (hq q1 (by simp))) (vs' := [(.int q0), (.int q1)]) rfl (by simp) (Or.inr naa602) ?_
    intro T610 h611 w612 A613 W614
    have X615 := own_ext_wr X609 w612 (by rw [g603]; exact Nat.le_refl _)
    have X616 := own_ext_tr E589 X615
    have H617 : ∀ c ∈ ([q0, q1] : List Int32), ¬ c < 0 ∧ ¬ (255 : Int32) < c := (own_bc (hq q0 (by simp)) (own_bc (hq q1 (by simp)) own_b0))
    refine g_special W614 at_51 (pc' := 54) rfl rfl (hw _ (List.mem_of_getElem? (i := 11) rfl)) (hw _ (List.mem_of_getElem? (i := 12) rfl)) (hw _ (List.mem_of_getElem? (i := 9) rfl)) (hw _ (List.mem_of_getElem? (i := 13) rfl)) (by decide) (con_new1 l Z a0 hw hEL a594 a602 _ [q0, q1] _ _ _ zc 2 h611 (own_ext_tr O (own_ext_tr (own_ext_rf h0) X616)) (fun c hc => (H617 c hc).2) zxa594 rfl (by decide) (A590.ext X615) ((D591 (Or.inr (hw _ (List.mem_of_getElem? (i := 36) rfl))) (ty := .array .byte) (by decide)).ext X615) ((D591 (Or.inr (hw _ (List.mem_of_getElem? (i := 34) rfl))) (ty := .byte) (by decide)).ext X615) A613 (own_b16 H617) SC hzc (by decide)) pd___C_V (argsL := [(.ref a602)]) (st := [(.ref a594)]) rfl rfl rfl rfl (by decide) (w := 1) (Nat.le_of_eq rfl) (by decide) (by decide) (by decide) (by simp) (fun q hq => Or.inr (by rcases List.mem_cons.mp hq with rfl | hq; exact nxa594; cases List.mem_singleton.mp hq; exact nxa594)) ?_
    intro v618 T619 h620 S623 q621 W624
    have W622 := W624.sf (SF' := [a602, a594]) (fun _ hx => List.mem_append_right _ hx)
    obtain ⟨rfl, K625, S626⟩ := q621
    have Y627 := own_ext_keep X616 K625 (by intro y hy; rw [List.mem_singleton.mp hy, g595]; exact Nat.le_refl _)
    have S628 := OLat.of S626 H617
    have X629 := own_ext_tr (own_ext_rf h0) Y627
    have W630 := W622.sf (SF' := []) (fun q hq => nomatch hq)
    refine g_astore W630 at_54 (pc' := 56) rfl (ls' := #[.val (.int p1), .val (.int p2), .val (.int p3), .val (.int q0), .val (.int q1), .val (.int q2), .val (.int q3), .val (.int q4), .val (.int q5), .val (.ref a594), .unset, .unset, .unset, .unset, .unset]) rfl rfl ?_
    refine g_new W630 at_56 (pc' := 59) rfl (hw _ (List.mem_of_getElem? (i := 7) rfl)) (hw _ (List.mem_of_getElem? (i := 8) rfl)) (hw _ (List.mem_of_getElem? (i := 9) rfl)) (by decide) (by decide) ?_
    intro T631 h632 E633 A634 D635 U636 W637
    obtain ⟨a638, g639⟩ : ∃ z, z = h620.size := ⟨_, rfl⟩
    rw [← g639] at A634 D635 U636 W637 ⊢
    have nxa638 : s.heap.size ≤ a638 := by rw [g639]; exact W630.grown
    have zxa638 : Z.heap.size ≤ a638 := by rw [g639]; exact (own_ext_tr O X629).1
    refine g_dup W637 at_59 (pc' := 60) rfl rfl ?_
    refine g_iconst W637 at_60 (pc' := 61) rfl (v := 2) rfl ?_
    refine g_newP W637 at_61 (pc' := 63) (cap := 2) rfl (ty := .char) (dv := (.int 0)) rfl rfl (hw _ (List.mem_of_getElem? (i := 10) rfl)) (by decide) (by decide) (by decide) (by decide) (by decide) ?_
    intro T640 h641 cA642 E643 A644 W645
    obtain ⟨a646, g647⟩ : ∃ z, z = h632.size := ⟨_, rfl⟩
    rw [← g647] at A644 W645 ⊢
    have naa646 : s.heap.size ≤ a646 := by rw [g647]; exact W637.grown
    refine g_dup W645 at_63 (pc' := 64) rfl rfl ?_
    refine g_iconst W645 at_64 (pc' := 65) rfl (v := 0) rfl ?_
    refine g_iload W645 at_65 (pc' := 67) rfl rfl ?_
    refine g_castore W645 at_67 (pc' := 68) rfl (own_pad0 2 A644) (i := 0) rfl (by decide) (by simp) (y := q2) (own_nar8 (hq q2 (by simp))) (vs' := [(.int q2), (.int (0 : Int32))]) rfl (by simp) (Or.inr naa646) ?_
    intro T648 h649 w650 A651 W652
    have X653 := own_ext_wr E643 w650 (by rw [g647]; exact Nat.le_refl _)
    refine g_dup W652 at_68 (pc' := 69) rfl rfl ?_
    refine g_iconst W652 at_69 (pc' := 70) rfl (v := 1) rfl ?_
    refine g_iload W652 at_70 (pc' := 72) rfl rfl ?_
    refine g_castore W652 at_72 (pc' := 73) rfl A651 (i := 1) rfl (by decide) (by simp) (y := q3) (own_nar8 (hq q3 (by simp))) (vs' := [(.int q2), (.int q3)]) rfl (by simp) (Or.inr naa646) ?_
    intro T654 h655 w656 A657 W658
    have X659 := own_ext_wr X653 w656 (by rw [g647]; exact Nat.le_refl _)
    have X660 := own_ext_tr E633 X659
    have H661 : ∀ c ∈ ([q2, q3] : List Int32), ¬ c < 0 ∧ ¬ (255 : Int32) < c := (own_bc (hq q2 (by simp)) (own_bc (hq q3 (by simp)) own_b0))
    refine g_special W658 at_73 (pc' := 76) rfl rfl (hw _ (List.mem_of_getElem? (i := 11) rfl)) (hw _ (List.mem_of_getElem? (i := 12) rfl)) (hw _ (List.mem_of_getElem? (i := 9) rfl)) (hw _ (List.mem_of_getElem? (i := 13) rfl)) (by decide) (con_new1 l Z a0 hw hEL a638 a646 _ [q2, q3] _ _ _ zc 2 h655 (own_ext_tr O (own_ext_tr X629 X660)) (fun c hc => (H661 c hc).2) zxa638 rfl (by decide) (A634.ext X659) ((D635 (Or.inr (hw _ (List.mem_of_getElem? (i := 36) rfl))) (ty := .array .byte) (by decide)).ext X659) ((D635 (Or.inr (hw _ (List.mem_of_getElem? (i := 34) rfl))) (ty := .byte) (by decide)).ext X659) A657 (own_b16 H661) SC hzc (by decide)) pd___C_V (argsL := [(.ref a646)]) (st := [(.ref a638)]) rfl rfl rfl rfl (by decide) (w := 1) (Nat.le_of_eq rfl) (by decide) (by decide) (by decide) (by simp) (fun q hq => Or.inr (by rcases List.mem_cons.mp hq with rfl | hq; exact nxa638; cases List.mem_singleton.mp hq; exact nxa638)) ?_
    intro v662 T663 h664 S667 q665 W668
    have W666 := W668.sf (SF' := [a646, a638]) (fun _ hx => List.mem_append_right _ hx)
    obtain ⟨rfl, K669, S670⟩ := q665
    have Y671 := own_ext_keep X660 K669 (by intro y hy; rw [List.mem_singleton.mp hy, g639]; exact Nat.le_refl _)
    have S672 := OLat.of S670 H661
    have X673 := own_ext_tr X629 Y671
    have W674 := W666.sf (SF' := []) (fun q hq => nomatch hq)
    refine g_astore W674 at_76 (pc' := 78) rfl (ls' := #[.val (.int p1), .val (.int p2), .val (.int p3), .val (.int q0), .val (.int q1), .val (.int q2), .val (.int q3), .val (.int q4), .val (.int q5), .val (.ref a594), .val (.ref a638), .unset, .unset, .unset, .unset]) rfl rfl ?_
    refine g_new W674 at_78 (pc' := 81) rfl (hw _ (List.mem_of_getElem? (i := 7) rfl)) (hw _ (List.mem_of_getElem? (i := 8) rfl)) (hw _ (List.mem_of_getElem? (i := 9) rfl)) (by decide) (by decide) ?_
    intro T675 h676 E677 A678 D679 U680 W681
    obtain ⟨a682, g683⟩ : ∃ z, z = h664.size := ⟨_, rfl⟩
    rw [← g683] at A678 D679 U680 W681 ⊢
    have nxa682 : s.heap.size ≤ a682 := by rw [g683]; exact W674.grown
    have zxa682 : Z.heap.size ≤ a682 := by rw [g683]; exact (own_ext_tr O X673).1
    refine g_dup W681 at_81 (pc' := 82) rfl rfl ?_
    refine g_iconst W681 at_82 (pc' := 83) rfl (v := 2) rfl ?_
    refine g_newP W681 at_83 (pc' := 85) (cap := 2) rfl (ty := .char) (dv := (.int 0)) rfl rfl (hw _ (List.mem_of_getElem? (i := 10) rfl)) (by decide) (by decide) (by decide) (by decide) (by decide) ?_
    intro T684 h685 cA686 E687 A688 W689
    obtain ⟨a690, g691⟩ : ∃ z, z = h676.size := ⟨_, rfl⟩
    rw [← g691] at A688 W689 ⊢
    have naa690 : s.heap.size ≤ a690 := by rw [g691]; exact W681.grown
    refine g_dup W689 at_85 (pc' := 86) rfl rfl ?_
    refine g_iconst W689 at_86 (pc' := 87) rfl (v := 0) rfl ?_
    refine g_iload W689 at_87 (pc' := 89) rfl rfl ?_
    refine g_castore W689 at_89 (pc' := 90) rfl (own_pad0 2 A688) (i := 0) rfl (by decide) (by simp) (y := q4) (own_nar8 (hq q4 (by simp))) (vs' := [(.int q4), (.int (0 : Int32))]) rfl (by simp) (Or.inr naa690) ?_
    intro T692 h693 w694 A695 W696
    have X697 := own_ext_wr E687 w694 (by rw [g691]; exact Nat.le_refl _)
    refine g_dup W696 at_90 (pc' := 91) rfl rfl ?_
    refine g_iconst W696 at_91 (pc' := 92) rfl (v := 1) rfl ?_
    refine g_iload W696 at_92 (pc' := 94) rfl rfl ?_
    refine g_castore W696 at_94 (pc' := 95) rfl A695 (i := 1) rfl (by decide) (by simp) (y := q5) (own_nar8 (hq q5 (by simp))) (vs' := [(.int q4), (.int q5)]) rfl (by simp) (Or.inr naa690) ?_
    intro T698 h699 w700 A701 W702
    have X703 := own_ext_wr X697 w700 (by rw [g691]; exact Nat.le_refl _)
    have X704 := own_ext_tr E677 X703
    have H705 : ∀ c ∈ ([q4, q5] : List Int32), ¬ c < 0 ∧ ¬ (255 : Int32) < c := (own_bc (hq q4 (by simp)) (own_bc (hq q5 (by simp)) own_b0))
    refine g_special W702 at_95 (pc' := 98) rfl rfl (hw _ (List.mem_of_getElem? (i := 11) rfl)) (hw _ (List.mem_of_getElem? (i := 12) rfl)) (hw _ (List.mem_of_getElem? (i := 9) rfl)) (hw _ (List.mem_of_getElem? (i := 13) rfl)) (by decide) (con_new1 l Z a0 hw hEL a682 a690 _ [q4, q5] _ _ _ zc 2 h699 (own_ext_tr O (own_ext_tr X673 X704)) (fun c hc => (H705 c hc).2) zxa682 rfl (by decide) (A678.ext X703) ((D679 (Or.inr (hw _ (List.mem_of_getElem? (i := 36) rfl))) (ty := .array .byte) (by decide)).ext X703) ((D679 (Or.inr (hw _ (List.mem_of_getElem? (i := 34) rfl))) (ty := .byte) (by decide)).ext X703) A701 (own_b16 H705) SC hzc (by decide)) pd___C_V (argsL := [(.ref a690)]) (st := [(.ref a682)]) rfl rfl rfl rfl (by decide) (w := 1) (Nat.le_of_eq rfl) (by decide) (by decide) (by decide) (by simp) (fun q hq => Or.inr (by rcases List.mem_cons.mp hq with rfl | hq; exact nxa682; cases List.mem_singleton.mp hq; exact nxa682)) ?_
    intro v706 T707 h708 S711 q709 W712
    have W710 := W712.sf (SF' := [a690, a682]) (fun _ hx => List.mem_append_right _ hx)
    obtain ⟨rfl, K713, S714⟩ := q709
    have Y715 := own_ext_keep X704 K713 (by intro y hy; rw [List.mem_singleton.mp hy, g683]; exact Nat.le_refl _)
    have S716 := OLat.of S714 H705
    have X717 := own_ext_tr X673 Y715
    have W718 := W710.sf (SF' := []) (fun q hq => nomatch hq)
    refine g_astore W718 at_98 (pc' := 100) rfl (ls' := #[.val (.int p1), .val (.int p2), .val (.int p3), .val (.int q0), .val (.int q1), .val (.int q2), .val (.int q3), .val (.int q4), .val (.int q5), .val (.ref a594), .val (.ref a638), .val (.ref a682), .unset, .unset, .unset]) rfl rfl ?_
    refine g_new W718 at_100 (pc' := 103) rfl (hw _ (List.mem_of_getElem? (i := 7) rfl)) (hw _ (List.mem_of_getElem? (i := 8) rfl)) (hw _ (List.mem_of_getElem? (i := 9) rfl)) (by decide) (by decide) ?_
    intro T719 h720 E721 A722 D723 U724 W725
    obtain ⟨a726, g727⟩ : ∃ z, z = h708.size := ⟨_, rfl⟩
    rw [← g727] at A722 D723 U724 W725 ⊢
    have nxa726 : s.heap.size ≤ a726 := by rw [g727]; exact W718.grown
    have zxa726 : Z.heap.size ≤ a726 := by rw [g727]; exact (own_ext_tr O X717).1
    refine g_dup W725 at_103 (pc' := 104) rfl rfl ?_
    refine g_bipush W725 at_104 (pc' := 106) rfl (v := 34) rfl ?_
    refine g_newP W725 at_106 (pc' := 108) (cap := 34) rfl (ty := .char) (dv := (.int 0)) rfl rfl (hw _ (List.mem_of_getElem? (i := 10) rfl)) (by decide) (by decide) (by decide) (by decide) (by decide) ?_
    intro T728 h729 cA730 E731 A732 W733
    obtain ⟨a734, g735⟩ : ∃ z, z = h720.size := ⟨_, rfl⟩
    rw [← g735] at A732 W733 ⊢
    have naa734 : s.heap.size ≤ a734 := by rw [g735]; exact W725.grown
    refine g_dup W733 at_108 (pc' := 109) rfl rfl ?_
    refine g_iconst W733 at_109 (pc' := 110) rfl (v := 0) rfl ?_
    refine g_iloadN W733 at_110 (pc' := 111) rfl rfl ?_
    refine g_castore W733 at_111 (pc' := 112) rfl (own_pad0 34 A732) (i := 0) rfl (by decide) (by simp) (y := q0) (own_nar8 (hq q0 (by simp))) (vs' := [(.int q0), (.int (0 : Int32)), (.int (0 : Int32)), (.int (0 : Int32)), (.int (0 : Int32)), (.int (0 : Int32)), (.int (0 : Int32)), (.int (0 : Int32)), (.int (0 : Int32)), (.int (0 : Int32)), (.int (0 : Int32)), (.int (0 : Int32)), (.int (0 : Int32)), (.int (0 : Int32)), (.int (0 : Int32)), (.int (0 : Int32)), (.int (0 : Int32)), (.int (0 : Int32)), (.int (0 : Int32)), (.int (0 : Int32)), (.int (0 : Int32)), (.int (0 : Int32)), (.int (0 : Int32)), (.int (0 : Int32)), (.int (0 : Int32)), (.int (0 : Int32)), (.int (0 : Int32)), (.int (0 : Int32)), (.int (0 : Int32)), (.int (0 : Int32)), (.int (0 : Int32)), (.int (0 : Int32)), (.int (0 : Int32)), (.int (0 : Int32))]) rfl (by simp) (Or.inr naa734) ?_
    intro T736 h737 w738 A739 W740
    have X741 := own_ext_wr E731 w738 (by rw [g735]; exact Nat.le_refl _)
    refine g_dup W740 at_112 (pc' := 113) rfl rfl ?_
    refine g_iconst W740 at_113 (pc' := 114) rfl (v := 1) rfl ?_
    refine g_iload W740 at_114 (pc' := 116) rfl rfl ?_
    refine g_castore W740 at_116 (pc' := 117) rfl A739 (i := 1) rfl (by decide) (by simp) (y := q1) (own_nar8 (hq q1 (by simp))) (vs' := [(.int q0), (.int q1), (.int (0 : Int32)), (.int (0 : Int32)), (.int (0 : Int32)), (.int (0 : Int32)), (.int (0 : Int32)), (.int (0 : Int32)), (.int (0 : Int32)), (.int (0 : Int32)), (.int (0 : Int32)), (.int (0 : Int32)), (.int (0 : Int32)), (.int (0 : Int32)), (.int (0 : Int32)), (.int (0 : Int32)), (.int (0 : Int32)), (.int (0 : Int32)), (.int (0 : Int32)), (.int (0 : Int32)), (.int (0 : Int32)), (.int (0 : Int32)), (.int (0 : Int32)), (.int (0 : Int32)), (.int (0 : Int32)), (.int (0 : Int32)), (.int (0 : Int32)), (.int (0 : Int32)), (.int (0 : Int32)), (.int (0 : Int32)), (.int (0 : Int32)), (.int (0 : Int32)), (.int (0 : Int32)), (.int (0 : Int32))]) rfl (by simp) (Or.inr naa734) ?_
    intro T742 h743 w744 A745 W746
    have X747 := own_ext_wr X741 w744 (by rw [g735]; exact Nat.le_refl _)
    refine g_dup W746 at_117 (pc' := 118) rfl rfl ?_
    refine g_iconst W746 at_118 (pc' := 119) rfl (v := 2) rfl ?_
    refine g_bipush W746 at_119 (pc' := 121) rfl (v := 58) rfl ?_
    refine g_castore W746 at_121 (pc' := 122) rfl A745 (i := 2) rfl (by decide) (by simp) (y := (58 : Int32)) (by decide) (vs' := [(.int q0), (.int q1), (.int (58 : Int32)), (.int (0 : Int32)), (.int (0 : Int32)), (.int (0 : Int32)), (.int (0 : Int32)), (.int (0 : Int32)), (.int (0 : Int32)), (.int (0 : Int32)), (.int (0 : Int32)), (.int (0 : Int32)), (.int (0 : Int32)), (.int (0 : Int32)), (.int (0 : Int32)), (.int (0 : Int32)), (.int (0 : Int32)), (.int (0 : Int32)), (.int (0 : Int32)), (.int (0 : Int32)), (.int (0 : Int32)), (.int (0 : Int32)), (.int (0 : Int32)), (.int (0 : Int32)), (.int (0 : Int32)), (.int (0 : Int32)), (.int (0 : Int32)), (.int (0 : Int32)), (.int (0 : Int32)), (.int (0 : Int32)), (.int (0 : Int32)), (.int (0 : Int32)), (.int (0 : Int32)), (.int (0 : Int32))]) rfl (by simp) (Or.inr naa734) ?_
    intro T748 h749 w750 A751 W752
    have X753 := own_ext_wr X747 w750 (by rw [g735]; exact Nat.le_refl _)
    refine g_dup W752 at_122 (pc' := 123) rfl rfl ?_
    refine g_iconst W752 at_123 (pc' := 124) rfl (v := 3) rfl ?_
    refine g_bipush W752 at_124 (pc' := 126) rfl (v := 32) rfl ?_
    refine g_castore W752 at_126 (pc' := 127) rfl A751 (i := 3) rfl (by decide) (by simp) (y := (32 : Int32)) (by decide) (vs' := [(.int q0), (.int q1), (.int (58 : Int32)), (.int (32 : Int32)), (.int (0 : Int32)), (.int (0 : Int32)), (.int (0 : Int32)), (.int (0 : Int32)), (.int (0 : Int32)), (.int (0 : Int32)), (.int (0 : Int32)), (.int (0 : Int32)), (.int (0 : Int32)), (.int (0 : Int32)), (.int (0 : Int32)), (.int (0 : Int32)), (.int (0 : Int32)), (.int (0 : Int32)), (.int (0 : Int32)), (.int (0 : Int32)), (.int (0 : Int32)), (.int (0 : Int32)), (.int (0 : Int32)), (.int (0 : Int32)), (.int (0 : Int32)), (.int (0 : Int32)), (.int (0 : Int32)), (.int (0 : Int32)), (.int (0 : Int32)), (.int (0 : Int32)), (.int (0 : Int32)), (.int (0 : Int32)), (.int (0 : Int32)), (.int (0 : Int32))]) rfl (by simp) (Or.inr naa734) ?_
    intro T754 h755 w756 A757 W758
    have X759 := own_ext_wr X753 w756 (by rw [g735]; exact Nat.le_refl _)
    refine g_dup W758 at_127 (pc' := 128) rfl rfl ?_
    refine g_iconst W758 at_128 (pc' := 129) rfl (v := 4) rfl ?_
    refine g_bipush W758 at_129 (pc' := 131) rfl (v := 116) rfl ?_
    refine g_castore W758 at_131 (pc' := 132) rfl A757 (i := 4) rfl (by decide) (by simp) (y := (116 : Int32)) (by decide) (vs' := [(.int q0), (.int q1), (.int (58 : Int32)), (.int (32 : Int32)), (.int (116 : Int32)), (.int (0 : Int32)), (.int (0 : Int32)), (.int (0 : Int32)), (.int (0 : Int32)), (.int (0 : Int32)), (.int (0 : Int32)), (.int (0 : Int32)), (.int (0 : Int32)), (.int (0 : Int32)), (.int (0 : Int32)), (.int (0 : Int32)), (.int (0 : Int32)), (.int (0 : Int32)), (.int (0 : Int32)), (.int (0 : Int32)), (.int (0 : Int32)), (.int (0 : Int32)), (.int (0 : Int32)), (.int (0 : Int32)), (.int (0 : Int32)), (.int (0 : Int32)), (.int (0 : Int32)), (.int (0 : Int32)), (.int (0 : Int32)), (.int (0 : Int32)), (.int (0 : Int32)), (.int (0 : Int32)), (.int (0 : Int32)), (.int (0 : Int32))]) rfl (by simp) (Or.inr naa734) ?_
    intro T760 h761 w762 A763 W764
    have X765 := own_ext_wr X759 w762 (by rw [g735]; exact Nat.le_refl _)
    refine g_dup W764 at_132 (pc' := 133) rfl rfl ?_
    refine g_iconst W764 at_133 (pc' := 134) rfl (v := 5) rfl ?_
    refine g_bipush W764 at_134 (pc' := 136) rfl (v := 104) rfl ?_
    refine g_castore W764 at_136 (pc' := 137) rfl A763 (i := 5) rfl (by decide) (by simp) (y := (104 : Int32)) (by decide) (vs' := [(.int q0), (.int q1), (.int (58 : Int32)), (.int (32 : Int32)), (.int (116 : Int32)), (.int (104 : Int32)), (.int (0 : Int32)), (.int (0 : Int32)), (.int (0 : Int32)), (.int (0 : Int32)), (.int (0 : Int32)), (.int (0 : Int32)), (.int (0 : Int32)), (.int (0 : Int32)), (.int (0 : Int32)), (.int (0 : Int32)), (.int (0 : Int32)), (.int (0 : Int32)), (.int (0 : Int32)), (.int (0 : Int32)), (.int (0 : Int32)), (.int (0 : Int32)), (.int (0 : Int32)), (.int (0 : Int32)), (.int (0 : Int32)), (.int (0 : Int32)), (.int (0 : Int32)), (.int (0 : Int32)), (.int (0 : Int32)), (.int (0 : Int32)), (.int (0 : Int32)), (.int (0 : Int32)), (.int (0 : Int32)), (.int (0 : Int32))]) rfl (by simp) (Or.inr naa734) ?_
    intro T766 h767 w768 A769 W770
    have X771 := own_ext_wr X765 w768 (by rw [g735]; exact Nat.le_refl _)
    refine g_dup W770 at_137 (pc' := 138) rfl rfl ?_
    refine g_bipush W770 at_138 (pc' := 140) rfl (v := 6) rfl ?_
    refine g_bipush W770 at_140 (pc' := 142) rfl (v := 101) rfl ?_
    refine g_castore W770 at_142 (pc' := 143) rfl A769 (i := 6) rfl (by decide) (by simp) (y := (101 : Int32)) (by decide) (vs' := [(.int q0), (.int q1), (.int (58 : Int32)), (.int (32 : Int32)), (.int (116 : Int32)), (.int (104 : Int32)), (.int (101 : Int32)), (.int (0 : Int32)), (.int (0 : Int32)), (.int (0 : Int32)), (.int (0 : Int32)), (.int (0 : Int32)), (.int (0 : Int32)), (.int (0 : Int32)), (.int (0 : Int32)), (.int (0 : Int32)), (.int (0 : Int32)), (.int (0 : Int32)), (.int (0 : Int32)), (.int (0 : Int32)), (.int (0 : Int32)), (.int (0 : Int32)), (.int (0 : Int32)), (.int (0 : Int32)), (.int (0 : Int32)), (.int (0 : Int32)), (.int (0 : Int32)), (.int (0 : Int32)), (.int (0 : Int32)), (.int (0 : Int32)), (.int (0 : Int32)), (.int (0 : Int32)), (.int (0 : Int32)), (.int (0 : Int32))]) rfl (by simp) (Or.inr naa734) ?_
    intro T772 h773 w774 A775 W776
    have X777 := own_ext_wr X771 w774 (by rw [g735]; exact Nat.le_refl _)
    refine g_dup W776 at_143 (pc' := 144) rfl rfl ?_
    refine g_bipush W776 at_144 (pc' := 146) rfl (v := 7) rfl ?_
    refine g_bipush W776 at_146 (pc' := 148) rfl (v := 32) rfl ?_
    refine g_castore W776 at_148 (pc' := 149) rfl A775 (i := 7) rfl (by decide) (by simp) (y := (32 : Int32)) (by decide) (vs' := [(.int q0), (.int q1), (.int (58 : Int32)), (.int (32 : Int32)), (.int (116 : Int32)), (.int (104 : Int32)), (.int (101 : Int32)), (.int (32 : Int32)), (.int (0 : Int32)), (.int (0 : Int32)), (.int (0 : Int32)), (.int (0 : Int32)), (.int (0 : Int32)), (.int (0 : Int32)), (.int (0 : Int32)), (.int (0 : Int32)), (.int (0 : Int32)), (.int (0 : Int32)), (.int (0 : Int32)), (.int (0 : Int32)), (.int (0 : Int32)), (.int (0 : Int32)), (.int (0 : Int32)), (.int (0 : Int32)), (.int (0 : Int32)), (.int (0 : Int32)), (.int (0 : Int32)), (.int (0 : Int32)), (.int (0 : Int32)), (.int (0 : Int32)), (.int (0 : Int32)), (.int (0 : Int32)), (.int (0 : Int32)), (.int (0 : Int32))]) rfl (by simp) (Or.inr naa734) ?_
    intro T778 h779 w780 A781 W782
    have X783 := own_ext_wr X777 w780 (by rw [g735]; exact Nat.le_refl _)
    refine g_dup W782 at_149 (pc' := 150) rfl rfl ?_
    refine g_bipush W782 at_150 (pc' := 152) rfl (v := 8) rfl ?_
    refine g_bipush W782 at_152 (pc' := 154) rfl (v := 100) rfl ?_
    refine g_castore W782 at_154 (pc' := 155) rfl A781 (i := 8) rfl (by decide) (by simp) (y := (100 : Int32)) (by decide) (vs' := [(.int q0), (.int q1), (.int (58 : Int32)), (.int (32 : Int32)), (.int (116 : Int32)), (.int (104 : Int32)), (.int (101 : Int32)), (.int (32 : Int32)), (.int (100 : Int32)), (.int (0 : Int32)), (.int (0 : Int32)), (.int (0 : Int32)), (.int (0 : Int32)), (.int (0 : Int32)), (.int (0 : Int32)), (.int (0 : Int32)), (.int (0 : Int32)), (.int (0 : Int32)), (.int (0 : Int32)), (.int (0 : Int32)), (.int (0 : Int32)), (.int (0 : Int32)), (.int (0 : Int32)), (.int (0 : Int32)), (.int (0 : Int32)), (.int (0 : Int32)), (.int (0 : Int32)), (.int (0 : Int32)), (.int (0 : Int32)), (.int (0 : Int32)), (.int (0 : Int32)), (.int (0 : Int32)), (.int (0 : Int32)), (.int (0 : Int32))]) rfl (by simp) (Or.inr naa734) ?_
    intro T784 h785 w786 A787 W788
    have X789 := own_ext_wr X783 w786 (by rw [g735]; exact Nat.le_refl _)
    refine g_dup W788 at_155 (pc' := 156) rfl rfl ?_
    refine g_bipush W788 at_156 (pc' := 158) rfl (v := 9) rfl ?_
    refine g_bipush W788 at_158 (pc' := 160) rfl (v := 101) rfl ?_
    refine g_castore W788 at_160 (pc' := 161) rfl A787 (i := 9) rfl (by decide) (by simp) (y := (101 : Int32)) (by decide) (vs' := [(.int q0), (.int q1), (.int (58 : Int32)), (.int (32 : Int32)), (.int (116 : Int32)), (.int (104 : Int32)), (.int (101 : Int32)), (.int (32 : Int32)), (.int (100 : Int32)), (.int (101 : Int32)), (.int (0 : Int32)), (.int (0 : Int32)), (.int (0 : Int32)), (.int (0 : Int32)), (.int (0 : Int32)), (.int (0 : Int32)), (.int (0 : Int32)), (.int (0 : Int32)), (.int (0 : Int32)), (.int (0 : Int32)), (.int (0 : Int32)), (.int (0 : Int32)), (.int (0 : Int32)), (.int (0 : Int32)), (.int (0 : Int32)), (.int (0 : Int32)), (.int (0 : Int32)), (.int (0 : Int32)), (.int (0 : Int32)), (.int (0 : Int32)), (.int (0 : Int32)), (.int (0 : Int32)), (.int (0 : Int32)), (.int (0 : Int32))]) rfl (by simp) (Or.inr naa734) ?_
    intro T790 h791 w792 A793 W794
    have X795 := own_ext_wr X789 w792 (by rw [g735]; exact Nat.le_refl _)
    refine g_dup W794 at_161 (pc' := 162) rfl rfl ?_
    refine g_bipush W794 at_162 (pc' := 164) rfl (v := 10) rfl ?_
    refine g_bipush W794 at_164 (pc' := 166) rfl (v := 102) rfl ?_
    refine g_castore W794 at_166 (pc' := 167) rfl A793 (i := 10) rfl (by decide) (by simp) (y := (102 : Int32)) (by decide) (vs' := [(.int q0), (.int q1), (.int (58 : Int32)), (.int (32 : Int32)), (.int (116 : Int32)), (.int (104 : Int32)), (.int (101 : Int32)), (.int (32 : Int32)), (.int (100 : Int32)), (.int (101 : Int32)), (.int (102 : Int32)), (.int (0 : Int32)), (.int (0 : Int32)), (.int (0 : Int32)), (.int (0 : Int32)), (.int (0 : Int32)), (.int (0 : Int32)), (.int (0 : Int32)), (.int (0 : Int32)), (.int (0 : Int32)), (.int (0 : Int32)), (.int (0 : Int32)), (.int (0 : Int32)), (.int (0 : Int32)), (.int (0 : Int32)), (.int (0 : Int32)), (.int (0 : Int32)), (.int (0 : Int32)), (.int (0 : Int32)), (.int (0 : Int32)), (.int (0 : Int32)), (.int (0 : Int32)), (.int (0 : Int32)), (.int (0 : Int32))]) rfl (by simp) (Or.inr naa734) ?_
    intro T796 h797 w798 A799 W800
    have X801 := own_ext_wr X795 w798 (by rw [g735]; exact Nat.le_refl _)
    refine g_dup W800 at_167 (pc' := 168) rfl rfl ?_
    refine g_bipush W800 at_168 (pc' := 170) rfl (v := 11) rfl ?_
    refine g_bipush W800 at_170 (pc' := 172) rfl (v := 105) rfl ?_
    refine g_castore W800 at_172 (pc' := 173) rfl A799 (i := 11) rfl (by decide) (by simp) (y := (105 : Int32)) (by decide) (vs' := [(.int q0), (.int q1), (.int (58 : Int32)), (.int (32 : Int32)), (.int (116 : Int32)), (.int (104 : Int32)), (.int (101 : Int32)), (.int (32 : Int32)), (.int (100 : Int32)), (.int (101 : Int32)), (.int (102 : Int32)), (.int (105 : Int32)), (.int (0 : Int32)), (.int (0 : Int32)), (.int (0 : Int32)), (.int (0 : Int32)), (.int (0 : Int32)), (.int (0 : Int32)), (.int (0 : Int32)), (.int (0 : Int32)), (.int (0 : Int32)), (.int (0 : Int32)), (.int (0 : Int32)), (.int (0 : Int32)), (.int (0 : Int32)), (.int (0 : Int32)), (.int (0 : Int32)), (.int (0 : Int32)), (.int (0 : Int32)), (.int (0 : Int32)), (.int (0 : Int32)), (.int (0 : Int32)), (.int (0 : Int32)), (.int (0 : Int32))]) rfl (by simp) (Or.inr naa734) ?_
    intro T802 h803 w804 A805 W806
    have X807 := own_ext_wr X801 w804 (by rw [g735]; exact Nat.le_refl _)
    refine g_dup W806 at_173 (pc' := 174) rfl rfl ?_
    refine g_bipush W806 at_174 (pc' := 176) rfl (v := 12) rfl ?_
    refine g_bipush W806 at_176 (pc' := 178) rfl (v := 110) rfl ?_
    refine g_castore W806 at_178 (pc' := 179) rfl A805 (i := 12) rfl (by decide) (by simp) (y := (110 : Int32)) (by decide) (vs' := [(.int q0), (.int q1), (.int (58 : Int32)), (.int (32 : Int32)), (.int (116 : Int32)), (.int (104 : Int32)), (.int (101 : Int32)), (.int (32 : Int32)), (.int (100 : Int32)), (.int (101 : Int32)), (.int (102 : Int32)), (.int (105 : Int32)), (.int (110 : Int32)), (.int (0 : Int32)), (.int (0 : Int32)), (.int (0 : Int32)), (.int (0 : Int32)), (.int (0 : Int32)), (.int (0 : Int32)), (.int (0 : Int32)), (.int (0 : Int32)), (.int (0 : Int32)), (.int (0 : Int32)), (.int (0 : Int32)), (.int (0 : Int32)), (.int (0 : Int32)), (.int (0 : Int32)), (.int (0 : Int32)), (.int (0 : Int32)), (.int (0 : Int32)), (.int (0 : Int32)), (.int (0 : Int32)), (.int (0 : Int32)), (.int (0 : Int32))]) rfl (by simp) (Or.inr naa734) ?_
    intro T808 h809 w810 A811 W812
    have X813 := own_ext_wr X807 w810 (by rw [g735]; exact Nat.le_refl _)
    refine g_dup W812 at_179 (pc' := 180) rfl rfl ?_
    refine g_bipush W812 at_180 (pc' := 182) rfl (v := 13) rfl ?_
    refine g_bipush W812 at_182 (pc' := 184) rfl (v := 105) rfl ?_
    refine g_castore W812 at_184 (pc' := 185) rfl A811 (i := 13) rfl (by decide) (by simp) (y := (105 : Int32)) (by decide) (vs' := [(.int q0), (.int q1), (.int (58 : Int32)), (.int (32 : Int32)), (.int (116 : Int32)), (.int (104 : Int32)), (.int (101 : Int32)), (.int (32 : Int32)), (.int (100 : Int32)), (.int (101 : Int32)), (.int (102 : Int32)), (.int (105 : Int32)), (.int (110 : Int32)), (.int (105 : Int32)), (.int (0 : Int32)), (.int (0 : Int32)), (.int (0 : Int32)), (.int (0 : Int32)), (.int (0 : Int32)), (.int (0 : Int32)), (.int (0 : Int32)), (.int (0 : Int32)), (.int (0 : Int32)), (.int (0 : Int32)), (.int (0 : Int32)), (.int (0 : Int32)), (.int (0 : Int32)), (.int (0 : Int32)), (.int (0 : Int32)), (.int (0 : Int32)), (.int (0 : Int32)), (.int (0 : Int32)), (.int (0 : Int32)), (.int (0 : Int32))]) rfl (by simp) (Or.inr naa734) ?_
    intro T814 h815 w816 A817 W818
    have X819 := own_ext_wr X813 w816 (by rw [g735]; exact Nat.le_refl _)
    refine g_dup W818 at_185 (pc' := 186) rfl rfl ?_
    refine g_bipush W818 at_186 (pc' := 188) rfl (v := 14) rfl ?_
    refine g_bipush W818 at_188 (pc' := 190) rfl (v := 116) rfl ?_
    refine g_castore W818 at_190 (pc' := 191) rfl A817 (i := 14) rfl (by decide) (by simp) (y := (116 : Int32)) (by decide) (vs' := [(.int q0), (.int q1), (.int (58 : Int32)), (.int (32 : Int32)), (.int (116 : Int32)), (.int (104 : Int32)), (.int (101 : Int32)), (.int (32 : Int32)), (.int (100 : Int32)), (.int (101 : Int32)), (.int (102 : Int32)), (.int (105 : Int32)), (.int (110 : Int32)), (.int (105 : Int32)), (.int (116 : Int32)), (.int (0 : Int32)), (.int (0 : Int32)), (.int (0 : Int32)), (.int (0 : Int32)), (.int (0 : Int32)), (.int (0 : Int32)), (.int (0 : Int32)), (.int (0 : Int32)), (.int (0 : Int32)), (.int (0 : Int32)), (.int (0 : Int32)), (.int (0 : Int32)), (.int (0 : Int32)), (.int (0 : Int32)), (.int (0 : Int32)), (.int (0 : Int32)), (.int (0 : Int32)), (.int (0 : Int32)), (.int (0 : Int32))]) rfl (by simp) (Or.inr naa734) ?_
    intro T820 h821 w822 A823 W824
    have X825 := own_ext_wr X819 w822 (by rw [g735]; exact Nat.le_refl _)
    refine g_dup W824 at_191 (pc' := 192) rfl rfl ?_
    refine g_bipush W824 at_192 (pc' := 194) rfl (v := 15) rfl ?_
    refine g_bipush W824 at_194 (pc' := 196) rfl (v := 105) rfl ?_
    refine g_castore W824 at_196 (pc' := 197) rfl A823 (i := 15) rfl (by decide) (by simp) (y := (105 : Int32)) (by decide) (vs' := [(.int q0), (.int q1), (.int (58 : Int32)), (.int (32 : Int32)), (.int (116 : Int32)), (.int (104 : Int32)), (.int (101 : Int32)), (.int (32 : Int32)), (.int (100 : Int32)), (.int (101 : Int32)), (.int (102 : Int32)), (.int (105 : Int32)), (.int (110 : Int32)), (.int (105 : Int32)), (.int (116 : Int32)), (.int (105 : Int32)), (.int (0 : Int32)), (.int (0 : Int32)), (.int (0 : Int32)), (.int (0 : Int32)), (.int (0 : Int32)), (.int (0 : Int32)), (.int (0 : Int32)), (.int (0 : Int32)), (.int (0 : Int32)), (.int (0 : Int32)), (.int (0 : Int32)), (.int (0 : Int32)), (.int (0 : Int32)), (.int (0 : Int32)), (.int (0 : Int32)), (.int (0 : Int32)), (.int (0 : Int32)), (.int (0 : Int32))]) rfl (by simp) (Or.inr naa734) ?_
    intro T826 h827 w828 A829 W830
    have X831 := own_ext_wr X825 w828 (by rw [g735]; exact Nat.le_refl _)
    refine g_dup W830 at_197 (pc' := 198) rfl rfl ?_
    refine g_bipush W830 at_198 (pc' := 200) rfl (v := 16) rfl ?_
    refine g_bipush W830 at_200 (pc' := 202) rfl (v := 111) rfl ?_
    refine g_castore W830 at_202 (pc' := 203) rfl A829 (i := 16) rfl (by decide) (by simp) (y := (111 : Int32)) (by decide) (vs' := [(.int q0), (.int q1), (.int (58 : Int32)), (.int (32 : Int32)), (.int (116 : Int32)), (.int (104 : Int32)), (.int (101 : Int32)), (.int (32 : Int32)), (.int (100 : Int32)), (.int (101 : Int32)), (.int (102 : Int32)), (.int (105 : Int32)), (.int (110 : Int32)), (.int (105 : Int32)), (.int (116 : Int32)), (.int (105 : Int32)), (.int (111 : Int32)), (.int (0 : Int32)), (.int (0 : Int32)), (.int (0 : Int32)), (.int (0 : Int32)), (.int (0 : Int32)), (.int (0 : Int32)), (.int (0 : Int32)), (.int (0 : Int32)), (.int (0 : Int32)), (.int (0 : Int32)), (.int (0 : Int32)), (.int (0 : Int32)), (.int (0 : Int32)), (.int (0 : Int32)), (.int (0 : Int32)), (.int (0 : Int32)), (.int (0 : Int32))]) rfl (by simp) (Or.inr naa734) ?_
    intro T832 h833 w834 A835 W836
    have X837 := own_ext_wr X831 w834 (by rw [g735]; exact Nat.le_refl _)
    refine g_dup W836 at_203 (pc' := 204) rfl rfl ?_
    refine g_bipush W836 at_204 (pc' := 206) rfl (v := 17) rfl ?_
    refine g_bipush W836 at_206 (pc' := 208) rfl (v := 110) rfl ?_
    refine g_castore W836 at_208 (pc' := 209) rfl A835 (i := 17) rfl (by decide) (by simp) (y := (110 : Int32)) (by decide) (vs' := [(.int q0), (.int q1), (.int (58 : Int32)), (.int (32 : Int32)), (.int (116 : Int32)), (.int (104 : Int32)), (.int (101 : Int32)), (.int (32 : Int32)), (.int (100 : Int32)), (.int (101 : Int32)), (.int (102 : Int32)), (.int (105 : Int32)), (.int (110 : Int32)), (.int (105 : Int32)), (.int (116 : Int32)), (.int (105 : Int32)), (.int (111 : Int32)), (.int (110 : Int32)), (.int (0 : Int32)), (.int (0 : Int32)), (.int (0 : Int32)), (.int (0 : Int32)), (.int (0 : Int32)), (.int (0 : Int32)), (.int (0 : Int32)), (.int (0 : Int32)), (.int (0 : Int32)), (.int (0 : Int32)), (.int (0 : Int32)), (.int (0 : Int32)), (.int (0 : Int32)), (.int (0 : Int32)), (.int (0 : Int32)), (.int (0 : Int32))]) rfl (by simp) (Or.inr naa734) ?_
    intro T838 h839 w840 A841 W842
    have X843 := own_ext_wr X837 w840 (by rw [g735]; exact Nat.le_refl _)
    refine g_dup W842 at_209 (pc' := 210) rfl rfl ?_
    refine g_bipush W842 at_210 (pc' := 212) rfl (v := 18) rfl ?_
    refine g_bipush W842 at_212 (pc' := 214) rfl (v := 32) rfl ?_
    refine g_castore W842 at_214 (pc' := 215) rfl A841 (i := 18) rfl (by decide) (by simp) (y := (32 : Int32)) (by decide) (vs' := [(.int q0), (.int q1), (.int (58 : Int32)), (.int (32 : Int32)), (.int (116 : Int32)), (.int (104 : Int32)), (.int (101 : Int32)), (.int (32 : Int32)), (.int (100 : Int32)), (.int (101 : Int32)), (.int (102 : Int32)), (.int (105 : Int32)), (.int (110 : Int32)), (.int (105 : Int32)), (.int (116 : Int32)), (.int (105 : Int32)), (.int (111 : Int32)), (.int (110 : Int32)), (.int (32 : Int32)), (.int (0 : Int32)), (.int (0 : Int32)), (.int (0 : Int32)), (.int (0 : Int32)), (.int (0 : Int32)), (.int (0 : Int32)), (.int (0 : Int32)), (.int (0 : Int32)), (.int (0 : Int32)), (.int (0 : Int32)), (.int (0 : Int32)), (.int (0 : Int32)), (.int (0 : Int32)), (.int (0 : Int32)), (.int (0 : Int32))]) rfl (by simp) (Or.inr naa734) ?_
    intro T844 h845 w846 A847 W848
    have X849 := own_ext_wr X843 w846 (by rw [g735]; exact Nat.le_refl _)
    refine g_dup W848 at_215 (pc' := 216) rfl rfl ?_
    refine g_bipush W848 at_216 (pc' := 218) rfl (v := 19) rfl ?_
    refine g_bipush W848 at_218 (pc' := 220) rfl (v := 115) rfl ?_
    refine g_castore W848 at_220 (pc' := 221) rfl A847 (i := 19) rfl (by decide) (by simp) (y := (115 : Int32)) (by decide) (vs' := [(.int q0), (.int q1), (.int (58 : Int32)), (.int (32 : Int32)), (.int (116 : Int32)), (.int (104 : Int32)), (.int (101 : Int32)), (.int (32 : Int32)), (.int (100 : Int32)), (.int (101 : Int32)), (.int (102 : Int32)), (.int (105 : Int32)), (.int (110 : Int32)), (.int (105 : Int32)), (.int (116 : Int32)), (.int (105 : Int32)), (.int (111 : Int32)), (.int (110 : Int32)), (.int (32 : Int32)), (.int (115 : Int32)), (.int (0 : Int32)), (.int (0 : Int32)), (.int (0 : Int32)), (.int (0 : Int32)), (.int (0 : Int32)), (.int (0 : Int32)), (.int (0 : Int32)), (.int (0 : Int32)), (.int (0 : Int32)), (.int (0 : Int32)), (.int (0 : Int32)), (.int (0 : Int32)), (.int (0 : Int32)), (.int (0 : Int32))]) rfl (by simp) (Or.inr naa734) ?_
    intro T850 h851 w852 A853 W854
    have X855 := own_ext_wr X849 w852 (by rw [g735]; exact Nat.le_refl _)
    refine g_dup W854 at_221 (pc' := 222) rfl rfl ?_
    refine g_bipush W854 at_222 (pc' := 224) rfl (v := 20) rfl ?_
    refine g_bipush W854 at_224 (pc' := 226) rfl (v := 97) rfl ?_
    refine g_castore W854 at_226 (pc' := 227) rfl A853 (i := 20) rfl (by decide) (by simp) (y := (97 : Int32)) (by decide) (vs' := [(.int q0), (.int q1), (.int (58 : Int32)), (.int (32 : Int32)), (.int (116 : Int32)), (.int (104 : Int32)), (.int (101 : Int32)), (.int (32 : Int32)), (.int (100 : Int32)), (.int (101 : Int32)), (.int (102 : Int32)), (.int (105 : Int32)), (.int (110 : Int32)), (.int (105 : Int32)), (.int (116 : Int32)), (.int (105 : Int32)), (.int (111 : Int32)), (.int (110 : Int32)), (.int (32 : Int32)), (.int (115 : Int32)), (.int (97 : Int32)), (.int (0 : Int32)), (.int (0 : Int32)), (.int (0 : Int32)), (.int (0 : Int32)), (.int (0 : Int32)), (.int (0 : Int32)), (.int (0 : Int32)), (.int (0 : Int32)), (.int (0 : Int32)), (.int (0 : Int32)), (.int (0 : Int32)), (.int (0 : Int32)), (.int (0 : Int32))]) rfl (by simp) (Or.inr naa734) ?_
    intro T856 h857 w858 A859 W860
    have X861 := own_ext_wr X855 w858 (by rw [g735]; exact Nat.le_refl _)
    refine g_dup W860 at_227 (pc' := 228) rfl rfl ?_
    refine g_bipush W860 at_228 (pc' := 230) rfl (v := 21) rfl ?_
    refine g_bipush W860 at_230 (pc' := 232) rfl (v := 121) rfl ?_
    refine g_castore W860 at_232 (pc' := 233) rfl A859 (i := 21) rfl (by decide) (by simp) (y := (121 : Int32)) (by decide) (vs' := [(.int q0), (.int q1), (.int (58 : Int32)), (.int (32 : Int32)), (.int (116 : Int32)), (.int (104 : Int32)), (.int (101 : Int32)), (.int (32 : Int32)), (.int (100 : Int32)), (.int (101 : Int32)), (.int (102 : Int32)), (.int (105 : Int32)), (.int (110 : Int32)), (.int (105 : Int32)), (.int (116 : Int32)), (.int (105 : Int32)), (.int (111 : Int32)), (.int (110 : Int32)), (.int (32 : Int32)), (.int (115 : Int32)), (.int (97 : Int32)), (.int (121 : Int32)), (.int (0 : Int32)), (.int (0 : Int32)), (.int (0 : Int32)), (.int (0 : Int32)), (.int (0 : Int32)), (.int (0 : Int32)), (.int (0 : Int32)), (.int (0 : Int32)), (.int (0 : Int32)), (.int (0 : Int32)), (.int (0 : Int32)), (.int (0 : Int32))]) rfl (by simp) (Or.inr naa734) ?_
    intro T862 h863 w864 A865 W866
    have X867 := own_ext_wr X861 w864 (by rw [g735]; exact Nat.le_refl _)
    refine g_dup W866 at_233 (pc' := 234) rfl rfl ?_
    refine g_bipush W866 at_234 (pc' := 236) rfl (v := 22) rfl ?_
    refine g_bipush W866 at_236 (pc' := 238) rfl (v := 115) rfl ?_
    refine g_castore W866 at_238 (pc' := 239) rfl A865 (i := 22) rfl (by decide) (by simp) (y := (115 : Int32)) (by decide) (vs' := [(.int q0), (.int q1), (.int (58 : Int32)), (.int (32 : Int32)), (.int (116 : Int32)), (.int (104 : Int32)), (.int (101 : Int32)), (.int (32 : Int32)), (.int (100 : Int32)), (.int (101 : Int32)), (.int (102 : Int32)), (.int (105 : Int32)), (.int (110 : Int32)), (.int (105 : Int32)), (.int (116 : Int32)), (.int (105 : Int32)), (.int (111 : Int32)), (.int (110 : Int32)), (.int (32 : Int32)), (.int (115 : Int32)), (.int (97 : Int32)), (.int (121 : Int32)), (.int (115 : Int32)), (.int (0 : Int32)), (.int (0 : Int32)), (.int (0 : Int32)), (.int (0 : Int32)), (.int (0 : Int32)), (.int (0 : Int32)), (.int (0 : Int32)), (.int (0 : Int32)), (.int (0 : Int32)), (.int (0 : Int32)), (.int (0 : Int32))]) rfl (by simp) (Or.inr naa734) ?_
    intro T868 h869 w870 A871 W872
    have X873 := own_ext_wr X867 w870 (by rw [g735]; exact Nat.le_refl _)
    refine g_dup W872 at_239 (pc' := 240) rfl rfl ?_
    refine g_bipush W872 at_240 (pc' := 242) rfl (v := 23) rfl ?_
    refine g_bipush W872 at_242 (pc' := 244) rfl (v := 32) rfl ?_
    refine g_castore W872 at_244 (pc' := 245) rfl A871 (i := 23) rfl (by decide) (by simp) (y := (32 : Int32)) (by decide) (vs' := [(.int q0), (.int q1), (.int (58 : Int32)), (.int (32 : Int32)), (.int (116 : Int32)), (.int (104 : Int32)), (.int (101 : Int32)), (.int (32 : Int32)), (.int (100 : Int32)), (.int (101 : Int32)), (.int (102 : Int32)), (.int (105 : Int32)), (.int (110 : Int32)), (.int (105 : Int32)), (.int (116 : Int32)), (.int (105 : Int32)), (.int (111 : Int32)), (.int (110 : Int32)), (.int (32 : Int32)), (.int (115 : Int32)), (.int (97 : Int32)), (.int (121 : Int32)), (.int (115 : Int32)), (.int (32 : Int32)), (.int (0 : Int32)), (.int (0 : Int32)), (.int (0 : Int32)), (.int (0 : Int32)), (.int (0 : Int32)), (.int (0 : Int32)), (.int (0 : Int32)), (.int (0 : Int32)), (.int (0 : Int32)), (.int (0 : Int32))]) rfl (by simp) (Or.inr naa734) ?_
    intro T874 h875 w876 A877 W878
    have X879 := own_ext_wr X873 w876 (by rw [g735]; exact Nat.le_refl _)
    refine g_dup W878 at_245 (pc' := 246) rfl rfl ?_
    refine g_bipush W878 at_246 (pc' := 248) rfl (v := 24) rfl ?_
    refine g_iload W878 at_248 (pc' := 250) rfl rfl ?_
    refine g_castore W878 at_250 (pc' := 251) rfl A877 (i := 24) rfl (by decide) (by simp) (y := q2) (own_nar8 (hq q2 (by simp))) (vs' := [(.int q0), (.int q1), (.int (58 : Int32)), (.int (32 : Int32)), (.int (116 : Int32)), (.int (104 : Int32)), (.int (101 : Int32)), (.int (32 : Int32)), (.int (100 : Int32)), (.int (101 : Int32)), (.int (102 : Int32)), (.int (105 : Int32)), (.int (110 : Int32)), (.int (105 : Int32)), (.int (116 : Int32)), (.int (105 : Int32)), (.int (111 : Int32)), (.int (110 : Int32)), (.int (32 : Int32)), (.int (115 : Int32)), (.int (97 : Int32)), (.int (121 : Int32)), (.int (115 : Int32)), (.int (32 : Int32)), (.int q2), (.int (0 : Int32)), (.int (0 : Int32)), (.int (0 : Int32)), (.int (0 : Int32)), (.int (0 : Int32)), (.int (0 : Int32)), (.int (0 : Int32)), (.int (0 : Int32)), (.int (0 : Int32))]) rfl (by simp) (Or.inr naa734) ?_
    intro T880 h881 w882 A883 W884
    have X885 := own_ext_wr X879 w882 (by rw [g735]; exact Nat.le_refl _)
    refine g_dup W884 at_251 (pc' := 252) rfl rfl ?_
    refine g_bipush W884 at_252 (pc' := 254) rfl (v := 25) rfl ?_
    refine g_iload W884 at_254 (pc' := 256) rfl rfl ?_
    refine g_castore W884 at_256 (pc' := 257) rfl A883 (i := 25) rfl (by decide) (by simp) (y := q3) (own_nar8 (hq q3 (by simp))) (vs' := [(.int q0), (.int q1), (.int (58 : Int32)), (.int (32 : Int32)), (.int (116 : Int32)), (.int (104 : Int32)), (.int (101 : Int32)), (.int (32 : Int32)), (.int (100 : Int32)), (.int (101 : Int32)), (.int (102 : Int32)), (.int (105 : Int32)), (.int (110 : Int32)), (.int (105 : Int32)), (.int (116 : Int32)), (.int (105 : Int32)), (.int (111 : Int32)), (.int (110 : Int32)), (.int (32 : Int32)), (.int (115 : Int32)), (.int (97 : Int32)), (.int (121 : Int32)), (.int (115 : Int32)), (.int (32 : Int32)), (.int q2), (.int q3), (.int (0 : Int32)), (.int (0 : Int32)), (.int (0 : Int32)), (.int (0 : Int32)), (.int (0 : Int32)), (.int (0 : Int32)), (.int (0 : Int32)), (.int (0 : Int32))]) rfl (by simp) (Or.inr naa734) ?_
    intro T886 h887 w888 A889 W890
    have X891 := own_ext_wr X885 w888 (by rw [g735]; exact Nat.le_refl _)
    refine g_dup W890 at_257 (pc' := 258) rfl rfl ?_
    refine g_bipush W890 at_258 (pc' := 260) rfl (v := 26) rfl ?_
    refine g_bipush W890 at_260 (pc' := 262) rfl (v := 44) rfl ?_
    refine g_castore W890 at_262 (pc' := 263) rfl A889 (i := 26) rfl (by decide) (by simp) (y := (44 : Int32)) (by decide) (vs' := [(.int q0), (.int q1), (.int (58 : Int32)), (.int (32 : Int32)), (.int (116 : Int32)), (.int (104 : Int32)), (.int (101 : Int32)), (.int (32 : Int32)), (.int (100 : Int32)), (.int (101 : Int32)), (.int (102 : Int32)), (.int (105 : Int32)), (.int (110 : Int32)), (.int (105 : Int32)), (.int (116 : Int32)), (.int (105 : Int32)), (.int (111 : Int32)), (.int (110 : Int32)), (.int (32 : Int32)), (.int (115 : Int32)), (.int (97 : Int32)), (.int (121 : Int32)), (.int (115 : Int32)), (.int (32 : Int32)), (.int q2), (.int q3), (.int (44 : Int32)), (.int (0 : Int32)), (.int (0 : Int32)), (.int (0 : Int32)), (.int (0 : Int32)), (.int (0 : Int32)), (.int (0 : Int32)), (.int (0 : Int32))]) rfl (by simp) (Or.inr naa734) ?_
    intro T892 h893 w894 A895 W896
    have X897 := own_ext_wr X891 w894 (by rw [g735]; exact Nat.le_refl _)
    refine g_dup W896 at_263 (pc' := 264) rfl rfl ?_
    refine g_bipush W896 at_264 (pc' := 266) rfl (v := 27) rfl ?_
    refine g_bipush W896 at_266 (pc' := 268) rfl (v := 32) rfl ?_
    refine g_castore W896 at_268 (pc' := 269) rfl A895 (i := 27) rfl (by decide) (by simp) (y := (32 : Int32)) (by decide) (vs' := [(.int q0), (.int q1), (.int (58 : Int32)), (.int (32 : Int32)), (.int (116 : Int32)), (.int (104 : Int32)), (.int (101 : Int32)), (.int (32 : Int32)), (.int (100 : Int32)), (.int (101 : Int32)), (.int (102 : Int32)), (.int (105 : Int32)), (.int (110 : Int32)), (.int (105 : Int32)), (.int (116 : Int32)), (.int (105 : Int32)), (.int (111 : Int32)), (.int (110 : Int32)), (.int (32 : Int32)), (.int (115 : Int32)), (.int (97 : Int32)), (.int (121 : Int32)), (.int (115 : Int32)), (.int (32 : Int32)), (.int q2), (.int q3), (.int (44 : Int32)), (.int (32 : Int32)), (.int (0 : Int32)), (.int (0 : Int32)), (.int (0 : Int32)), (.int (0 : Int32)), (.int (0 : Int32)), (.int (0 : Int32))]) rfl (by simp) (Or.inr naa734) ?_
    intro T898 h899 w900 A901 W902
    have X903 := own_ext_wr X897 w900 (by rw [g735]; exact Nat.le_refl _)
    refine g_dup W902 at_269 (pc' := 270) rfl rfl ?_
    refine g_bipush W902 at_270 (pc' := 272) rfl (v := 28) rfl ?_
    refine g_bipush W902 at_272 (pc' := 274) rfl (v := 98) rfl ?_
    refine g_castore W902 at_274 (pc' := 275) rfl A901 (i := 28) rfl (by decide) (by simp) (y := (98 : Int32)) (by decide) (vs' := [(.int q0), (.int q1), (.int (58 : Int32)), (.int (32 : Int32)), (.int (116 : Int32)), (.int (104 : Int32)), (.int (101 : Int32)), (.int (32 : Int32)), (.int (100 : Int32)), (.int (101 : Int32)), (.int (102 : Int32)), (.int (105 : Int32)), (.int (110 : Int32)), (.int (105 : Int32)), (.int (116 : Int32)), (.int (105 : Int32)), (.int (111 : Int32)), (.int (110 : Int32)), (.int (32 : Int32)), (.int (115 : Int32)), (.int (97 : Int32)), (.int (121 : Int32)), (.int (115 : Int32)), (.int (32 : Int32)), (.int q2), (.int q3), (.int (44 : Int32)), (.int (32 : Int32)), (.int (98 : Int32)), (.int (0 : Int32)), (.int (0 : Int32)), (.int (0 : Int32)), (.int (0 : Int32)), (.int (0 : Int32))]) rfl (by simp) (Or.inr naa734) ?_
    intro T904 h905 w906 A907 W908
    have X909 := own_ext_wr X903 w906 (by rw [g735]; exact Nat.le_refl _)
    refine g_dup W908 at_275 (pc' := 276) rfl rfl ?_
    refine g_bipush W908 at_276 (pc' := 278) rfl (v := 29) rfl ?_
    refine g_bipush W908 at_278 (pc' := 280) rfl (v := 117) rfl ?_
    refine g_castore W908 at_280 (pc' := 281) rfl A907 (i := 29) rfl (by decide) (by simp) (y := (117 : Int32)) (by decide) (vs' := [(.int q0), (.int q1), (.int (58 : Int32)), (.int (32 : Int32)), (.int (116 : Int32)), (.int (104 : Int32)), (.int (101 : Int32)), (.int (32 : Int32)), (.int (100 : Int32)), (.int (101 : Int32)), (.int (102 : Int32)), (.int (105 : Int32)), (.int (110 : Int32)), (.int (105 : Int32)), (.int (116 : Int32)), (.int (105 : Int32)), (.int (111 : Int32)), (.int (110 : Int32)), (.int (32 : Int32)), (.int (115 : Int32)), (.int (97 : Int32)), (.int (121 : Int32)), (.int (115 : Int32)), (.int (32 : Int32)), (.int q2), (.int q3), (.int (44 : Int32)), (.int (32 : Int32)), (.int (98 : Int32)), (.int (117 : Int32)), (.int (0 : Int32)), (.int (0 : Int32)), (.int (0 : Int32)), (.int (0 : Int32))]) rfl (by simp) (Or.inr naa734) ?_
    intro T910 h911 w912 A913 W914
    have X915 := own_ext_wr X909 w912 (by rw [g735]; exact Nat.le_refl _)
    refine g_dup W914 at_281 (pc' := 282) rfl rfl ?_
    refine g_bipush W914 at_282 (pc' := 284) rfl (v := 30) rfl ?_
    refine g_bipush W914 at_284 (pc' := 286) rfl (v := 116) rfl ?_
    refine g_castore W914 at_286 (pc' := 287) rfl A913 (i := 30) rfl (by decide) (by simp) (y := (116 : Int32)) (by decide) (vs' := [(.int q0), (.int q1), (.int (58 : Int32)), (.int (32 : Int32)), (.int (116 : Int32)), (.int (104 : Int32)), (.int (101 : Int32)), (.int (32 : Int32)), (.int (100 : Int32)), (.int (101 : Int32)), (.int (102 : Int32)), (.int (105 : Int32)), (.int (110 : Int32)), (.int (105 : Int32)), (.int (116 : Int32)), (.int (105 : Int32)), (.int (111 : Int32)), (.int (110 : Int32)), (.int (32 : Int32)), (.int (115 : Int32)), (.int (97 : Int32)), (.int (121 : Int32)), (.int (115 : Int32)), (.int (32 : Int32)), (.int q2), (.int q3), (.int (44 : Int32)), (.int (32 : Int32)), (.int (98 : Int32)), (.int (117 : Int32)), (.int (116 : Int32)), (.int (0 : Int32)), (.int (0 : Int32)), (.int (0 : Int32))]) rfl (by simp) (Or.inr naa734) ?_
    intro T916 h917 w918 A919 W920
    have X921 := own_ext_wr X915 w918 (by rw [g735]; exact Nat.le_refl _)
    refine g_dup W920 at_287 (pc' := 288) rfl rfl ?_
    refine g_bipush W920 at_288 (pc' := 290) rfl (v := 31) rfl ?_
    refine g_bipush W920 at_290 (pc' := 292) rfl (v := 32) rfl ?_
    refine g_castore W920 at_292 (pc' := 293) rfl A919 (i := 31) rfl (by decide) (by simp) (y := (32 : Int32)) (by decide) (vs' := [(.int q0), (.int q1), (.int (58 : Int32)), (.int (32 : Int32)), (.int (116 : Int32)), (.int (104 : Int32)), (.int (101 : Int32)), (.int (32 : Int32)), (.int (100 : Int32)), (.int (101 : Int32)), (.int (102 : Int32)), (.int (105 : Int32)), (.int (110 : Int32)), (.int (105 : Int32)), (.int (116 : Int32)), (.int (105 : Int32)), (.int (111 : Int32)), (.int (110 : Int32)), (.int (32 : Int32)), (.int (115 : Int32)), (.int (97 : Int32)), (.int (121 : Int32)), (.int (115 : Int32)), (.int (32 : Int32)), (.int q2), (.int q3), (.int (44 : Int32)), (.int (32 : Int32)), (.int (98 : Int32)), (.int (117 : Int32)), (.int (116 : Int32)), (.int (32 : Int32)), (.int (0 : Int32)), (.int (0 : Int32))]) rfl (by simp) (Or.inr naa734) ?_
    intro T922 h923 w924 A925 W926
    have X927 := own_ext_wr X921 w924 (by rw [g735]; exact Nat.le_refl _)
    refine g_dup W926 at_293 (pc' := 294) rfl rfl ?_
    refine g_bipush W926 at_294 (pc' := 296) rfl (v := 32) rfl ?_
    refine g_iload W926 at_296 (pc' := 298) rfl rfl ?_
    refine g_castore W926 at_298 (pc' := 299) rfl A925 (i := 32) rfl (by decide) (by simp) (y := q4) (own_nar8 (hq q4 (by simp))) (vs' := [(.int q0), (.int q1), (.int (58 : Int32)), (.int (32 : Int32)), (.int (116 : Int32)), (.int (104 : Int32)), (.int (101 : Int32)), (.int (32 : Int32)), (.int (100 : Int32)), (.int (101 : Int32)), (.int (102 : Int32)), (.int (105 : Int32)), (.int (110 : Int32)), (.int (105 : Int32)), (.int (116 : Int32)), (.int (105 : Int32)), (.int (111 : Int32)), (.int (110 : Int32)), (.int (32 : Int32)), (.int (115 : Int32)), (.int (97 : Int32)), (.int (121 : Int32)), (.int (115 : Int32)), (.int (32 : Int32)), (.int q2), (.int q3), (.int (44 : Int32)), (.int (32 : Int32)), (.int (98 : Int32)), (.int (117 : Int32)), (.int (116 : Int32)), (.int (32 : Int32)), (.int q4), (.int (0 : Int32))]) rfl (by simp) (Or.inr naa734) ?_
    intro T928 h929 w930 A931 W932
    have X933 := own_ext_wr X927 w930 (by rw [g735]; exact Nat.le_refl _)
    refine g_dup W932 at_299 (pc' := 300) rfl rfl ?_
    refine g_bipush W932 at_300 (pc' := 302) rfl (v := 33) rfl ?_
    refine g_iload W932 at_302 (pc' := 304) rfl rfl ?_
    refine g_castore W932 at_304 (pc' := 305) rfl A931 (i := 33) rfl (by decide) (by simp) (y := q5) (own_nar8 (hq q5 (by simp))) (vs' := [(.int q0), (.int q1), (.int (58 : Int32)), (.int (32 : Int32)), (.int (116 : Int32)), (.int (104 : Int32)), (.int (101 : Int32)), (.int (32 : Int32)), (.int (100 : Int32)), (.int (101 : Int32)), (.int (102 : Int32)), (.int (105 : Int32)), (.int (110 : Int32)), (.int (105 : Int32)), (.int (116 : Int32)), (.int (105 : Int32)), (.int (111 : Int32)), (.int (110 : Int32)), (.int (32 : Int32)), (.int (115 : Int32)), (.int (97 : Int32)), (.int (121 : Int32)), (.int (115 : Int32)), (.int (32 : Int32)), (.int q2), (.int q3), (.int (44 : Int32)), (.int (32 : Int32)), (.int (98 : Int32)), (.int (117 : Int32)), (.int (116 : Int32)), (.int (32 : Int32)), (.int q4), (.int q5)]) rfl (by simp) (Or.inr naa734) ?_
    intro T934 h935 w936 A937 W938
    have X939 := own_ext_wr X933 w936 (by rw [g735]; exact Nat.le_refl _)
    have X940 := own_ext_tr E721 X939
    have H941 : ∀ c ∈ ([q0, q1, (58 : Int32), (32 : Int32), (116 : Int32), (104 : Int32), (101 : Int32), (32 : Int32), (100 : Int32), (101 : Int32), (102 : Int32), (105 : Int32), (110 : Int32), (105 : Int32), (116 : Int32), (105 : Int32), (111 : Int32), (110 : Int32), (32 : Int32), (115 : Int32), (97 : Int32), (121 : Int32), (115 : Int32), (32 : Int32), q2, q3, (44 : Int32), (32 : Int32), (98 : Int32), (117 : Int32), (116 : Int32), (32 : Int32), q4, q5] : List Int32), ¬ c < 0 ∧ ¬ (255 : Int32) < c := (own_bc (hq q0 (by simp)) (own_bc (hq q1 (by simp)) (own_bc (by decide) (own_bc (by decide) (own_bc (by decide) (own_bc (by decide) (own_bc (by decide) (own_bc (by decide) (own_bc (by decide) (own_bc (by decide) (own_bc (by decide) (own_bc (by decide) (own_bc (by decide) (own_bc (by decide) (own_bc (by decide) (own_bc (by decide) (own_bc (by decide) (own_bc (by decide) (own_bc (by decide) (own_bc (by decide) (own_bc (by decide) (own_bc (by decide) (own_bc (by decide) (own_bc (by decide) (own_bc (hq q2 (by simp)) (own_bc (hq q3 (by simp)) (own_bc (by decide) (own_bc (by decide) (own_bc (by decide) (own_bc (by decide) (own_bc (by decide) (own_bc (by decide) (own_bc (hq q4 (by simp)) (own_bc (hq q5 (by simp)) own_b0))))))))))))))))))))))))))))))))))
    refine g_special W938 at_305 (pc' := 308) rfl rfl (hw _ (List.mem_of_getElem? (i := 11) rfl)) (hw _ (List.mem_of_getElem? (i := 12) rfl)) (hw _ (List.mem_of_getElem? (i := 9) rfl)) (hw _ (List.mem_of_getElem? (i := 13) rfl)) (by decide) (con_new1 l Z a0 hw hEL a726 a734 _ [q0, q1, (58 : Int32), (32 : Int32), (116 : Int32), (104 : Int32), (101 : Int32), (32 : Int32), (100 : Int32), (101 : Int32), (102 : Int32), (105 : Int32), (110 : Int32), (105 : Int32), (116 : Int32), (105 : Int32), (111 : Int32), (110 : Int32), (32 : Int32), (115 : Int32), (97 : Int32), (121 : Int32), (115 : Int32), (32 : Int32), q2, q3, (44 : Int32), (32 : Int32), (98 : Int32), (117 : Int32), (116 : Int32), (32 : Int32), q4, q5] _ _ _ zc 34 h935 (own_ext_tr O (own_ext_tr X717 X940)) (fun c hc => (H941 c hc).2) zxa726 rfl (by decide) (A722.ext X939) ((D723 (Or.inr (hw _ (List.mem_of_getElem? (i := 36) rfl))) (ty := .array .byte) (by decide)).ext X939) ((D723 (Or.inr (hw _ (List.mem_of_getElem? (i := 34) rfl))) (ty := .byte) (by decide)).ext X939) A937 (own_b16 H941) SC hzc (by decide)) pd___C_V (argsL := [(.ref a734)]) (st := [(.ref a726)]) rfl rfl rfl rfl (by decide) (w := 1) (Nat.le_of_eq rfl) (by decide) (by decide) (by decide) (by simp) (fun q hq => Or.inr (by rcases List.mem_cons.mp hq with rfl | hq; exact nxa726; cases List.mem_singleton.mp hq; exact nxa726)) ?_
    intro v942 T943 h944 S947 q945 W948
    have W946 := W948.sf (SF' := [a734, a726]) (fun _ hx => List.mem_append_right _ hx)
    obtain ⟨rfl, K949, S950⟩ := q945
    have Y951 := own_ext_keep X940 K949 (by intro y hy; rw [List.mem_singleton.mp hy, g727]; exact Nat.le_refl _)
    have S952 := OLat.of S950 H941
    have X953 := own_ext_tr X717 Y951
    have W954 := W946.sf (SF' := []) (fun q hq => nomatch hq)
    refine g_astore W954 at_308 (pc' := 310) rfl (ls' := #[.val (.int p1), .val (.int p2), .val (.int p3), .val (.int q0), .val (.int q1), .val (.int q2), .val (.int q3), .val (.int q4), .val (.int q5), .val (.ref a594), .val (.ref a638), .val (.ref a682), .val (.ref a726), .unset, .unset]) rfl rfl ?_
    refine g_aload W954 at_310 (pc' := 312) rfl rfl rfl ?_
    refine g_aload W954 at_312 (pc' := 314) rfl rfl rfl ?_
    refine g_aload W954 at_314 (pc' := 316) rfl rfl rfl ?_
    refine g_static W954 at_316 (pc' := 319) rfl (hw _ (List.mem_of_getElem? (i := 37) rfl)) (hw _ (List.mem_of_getElem? (i := 38) rfl)) (hw _ (List.mem_of_getElem? (i := 39) rfl)) (hw _ (List.mem_of_getElem? (i := 40) rfl)) (by decide) (con_mis l Z a0 hw hEL zc SC hzc hst uu sn SU SN h944 (own_ext_tr O X953) a594 [q0, q1] (((S628.ext Y671).ext Y715).ext Y951) rfl a638 [q2, q3] ((S672.ext Y715).ext Y951) rfl a682 [q4, q5] (S716.ext Y951) rfl) pd__Ljava_lang_String_Ljava_lang_String_Ljava_lang_String__Lcom_example_shardwright_shardwright_CommandException_ (argsL := [(.ref a594), (.ref a638), (.ref a682)]) (st := []) rfl rfl rfl rfl (by decide) (w := 0) (Nat.le_of_eq rfl) (by decide) (by decide) (by decide) (by simp) (fun q hq => nomatch hq) ?_
    intro v955 T956 h957 S960 q958 W961
    have W959 := W961.sf (SF' := []) (fun _ hx => List.mem_append_right _ hx)
    obtain ⟨ex, zz, rfl, XM, SZ, eE, eM, eC, eU⟩ := q958
    have SE := (S952).ext XM
    have OM := own_ext_tr O (own_ext_tr X953 XM)
    refine g_astore W959 at_319 (pc' := 321) rfl (ls' := #[.val (.int p1), .val (.int p2), .val (.int p3), .val (.int q0), .val (.int q1), .val (.int q2), .val (.int q3), .val (.int q4), .val (.int q5), .val (.ref a594), .val (.ref a638), .val (.ref a682), .val (.ref a726), .val (.ref ex), .unset]) rfl rfl ?_
    refine g_aload W959 at_321 (pc' := 323) rfl rfl rfl ?_
    refine g_nnY W959 at_323 (pc' := 328) (by decide) (by decide) ?_
    refine g_aload W959 at_328 (pc' := 330) rfl rfl rfl ?_
    refine g_virtUp W959 at_330 (pc' := 333) (C := "com/example/shardwright/shardwright/CommandException") (owner := "java/lang/Throwable") rfl (hw _ (List.mem_of_getElem? (i := 235) rfl)) (hw _ (List.mem_of_getElem? (i := 236) rfl)) (hw _ (List.mem_of_getElem? (i := 237) rfl)) (hw _ (List.mem_of_getElem? (i := 239) rfl)) (hw _ (List.mem_of_getElem? (i := 238) rfl)) (hw _ (List.mem_of_getElem? (i := 192) rfl)) (hw _ (List.mem_of_getElem? (i := 240) rfl)) (by decide) eE (con_gm l Z a0 hw hEL ex zz h957 eM) pd___Ljava_lang_String_ (argsL := []) (st := []) rfl rfl rfl rfl (by decide) (w := 0) (Nat.le_of_eq rfl) (by decide) (by decide) (by decide) (by simp) (fun q hq => nomatch hq) ?_
    intro v962 T963 h964 S967 q965 W968
    have W966 := W968.sf (SF' := []) (fun _ hx => List.mem_append_right _ hx)
    obtain ⟨rfl, rfl⟩ := q965
    refine g_astore W966 at_333 (pc' := 335) rfl (ls' := #[.val (.int p1), .val (.int p2), .val (.int p3), .val (.int q0), .val (.int q1), .val (.int q2), .val (.int q3), .val (.int q4), .val (.int q5), .val (.ref a594), .val (.ref a638), .val (.ref a682), .val (.ref a726), .val (.ref ex), .val (.ref zz)]) rfl rfl ?_
    refine g_aload W966 at_335 (pc' := 337) rfl rfl rfl ?_
    refine g_aload W966 at_337 (pc' := 339) rfl rfl rfl ?_
    obtain ⟨u973_E, u974_B, u975_t, u976_k, u977_c, u978_N, u979_v, u980_V, u981_C, u982_A, u983_D⟩ := SE.str
    obtain ⟨u984_E, u985_B, u986_t, u987_k, u988_c, u989_N, u990_v, u991_V, u992_C, u993_A, u994_D⟩ := SZ.str
    refine g_virtualB W966 at_339 (pc' := 342) (C := "java/lang/String") rfl (hw _ (List.mem_of_getElem? (i := 241) rfl)) (hw _ (List.mem_of_getElem? (i := 242) rfl)) (y7 := (⟨"java/lang/String", "equals", "(Ljava/lang/Object;)Z"⟩ : MethodName)) rfl (hw _ (List.mem_of_getElem? (i := 244) rfl)) (hw _ (List.mem_of_getElem? (i := 244) rfl)) (hw _ (List.mem_of_getElem? (i := 243) rfl)) (by decide) u973_E (fun vm0 hZ0 => StrChars.Road.eqW (s := s.setVm vm0) (W := 0) hZ0 (fun d hd => hw d (own_weq d hd)) (hw _ (List.mem_of_getElem? (i := 8) rfl)) u973_E u980_V u981_C u982_A u983_D u974_B (by simp) u984_E u991_V u992_C u993_A u994_D u985_B (by simp) (SC.ext OM) hzc (by decide) (by decide)) pd__Ljava_lang_Object__Z (argsL := [(.ref zz)]) (st := []) rfl rfl rfl rfl (Nat.le_of_eq rfl) ?_
    intro v969 T970 q971 W972
    rcases q971 with ⟨rfl, -⟩ | ⟨rfl, qn⟩
    · skip
      refine g_ifN W972 at_342 (pc' := 345) (feq (by decide : ¬ ((1 : Int32) = (0 : Int32)))).1 rfl ?_
      refine g_aload W972 at_345 (pc' := 347) rfl rfl rfl ?_
      refine g_virtual W972 at_347 (pc' := 350) (C := "com/example/shardwright/shardwright/CommandException") rfl (hw _ (List.mem_of_getElem? (i := 251) rfl)) (hw _ (List.mem_of_getElem? (i := 252) rfl)) (y7 := (⟨"com/example/shardwright/shardwright/CommandException", "exitCode", "()I"⟩ : MethodName)) rfl (hw _ (List.mem_of_getElem? (i := 254) rfl)) (hw _ (List.mem_of_getElem? (i := 254) rfl)) (hw _ (List.mem_of_getElem? (i := 253) rfl)) (hw _ (List.mem_of_getElem? (i := 39) rfl)) (hw _ (List.mem_of_getElem? (i := 255) rfl)) (by decide) eE (con_xc l Z a0 hw hEL ex h957 eC) pd___I (argsL := []) (st := []) rfl rfl rfl rfl (by decide) (w := 0) (Nat.le_of_eq rfl) (by decide) (by decide) (by decide) (by simp) (fun q hq => nomatch hq) ?_
      intro v995 T996 h997 S1000 q998 W1001
      have W999 := W1001.sf (SF' := []) (fun _ hx => List.mem_append_right _ hx)
      obtain ⟨rfl, rfl⟩ := q998
      refine g_iconst W999 at_350 (pc' := 351) rfl (v := 2) rfl ?_
      refine g_icN W999 at_351 (pc' := 354) (teq (by decide : (2 : Int32) = (2 : Int32))).2 rfl ?_
      refine g_aload W999 at_354 (pc' := 356) rfl rfl rfl ?_
      refine g_virtual W999 at_356 (pc' := 359) (C := "com/example/shardwright/shardwright/CommandException") rfl (hw _ (List.mem_of_getElem? (i := 256) rfl)) (hw _ (List.mem_of_getElem? (i := 257) rfl)) (y7 := (⟨"com/example/shardwright/shardwright/CommandException", "exitCode", "()I"⟩ : MethodName)) rfl (hw _ (List.mem_of_getElem? (i := 254) rfl)) (hw _ (List.mem_of_getElem? (i := 259) rfl)) (hw _ (List.mem_of_getElem? (i := 258) rfl)) (hw _ (List.mem_of_getElem? (i := 39) rfl)) (hw _ (List.mem_of_getElem? (i := 260) rfl)) (by decide) eE (con_su l Z a0 hw hEL ex h957 eU) pd___Z (argsL := []) (st := []) rfl rfl rfl rfl (by decide) (w := 0) (Nat.le_of_eq rfl) (by decide) (by decide) (by decide) (by simp) (fun q hq => nomatch hq) ?_
      intro v1002 T1003 h1004 S1007 q1005 W1008
      have W1006 := W1008.sf (SF' := []) (fun _ hx => List.mem_append_right _ hx)
      obtain ⟨rfl, rfl⟩ := q1005
      refine g_ifN W1006 at_359 (pc' := 362) (teq (by decide : (0 : Int32) = (0 : Int32))).2 rfl ?_
      refine g_iconst W1006 at_362 (pc' := 363) rfl (v := 1) rfl ?_
      refine g_goto W1006 at_363 (pc' := 367) (by decide) (by decide) ?_
      exact g_iret W1006 at_367 rfl (Or.inr (Or.inl rfl)) rfl rfl
    · exact absurd rfl qn
  have ef : entryFrame m #[(.int p1), (.int p2), (.int p3)] maxLocals = mkF m 0 #[.val (.int p1), .val (.int p2), .val (.int p3), .unset, .unset, .unset, .unset, .unset, .unset, .unset, .unset, .unset, .unset, .unset, .unset] [] := own_entry m [(.int p1), (.int p2), (.int p3)] maxLocals (by simp [Value.category]) rfl
  rw [ef]
  refine g_iloadN W00 at_0 (pc' := 1) rfl rfl ?_
  refine g_static W00 at_1 (pc' := 4) rfl (hw _ (List.mem_of_getElem? (i := 0) rfl)) (hw _ (List.mem_of_getElem? (i := 1) rfl)) (hw _ (List.mem_of_getElem? (i := 2) rfl)) (hw _ (List.mem_of_getElem? (i := 3) rfl)) (by decide) (con_lo l Z a0 hw hEL p1 h0) pd__I_C (argsL := [(.int p1)]) (st := []) rfl rfl rfl rfl (by decide) (w := 0) (Nat.le_of_eq rfl) (by decide) (by decide) (by decide) (by simp) (fun q hq => nomatch hq) ?_
  intro v1009 T1010 h1011 S1014 q1012 W1015
  have W1013 := W1015.sf (SF' := []) (fun _ hx => List.mem_append_right _ hx)
  obtain ⟨rfl, rfl⟩ := q1012
  refine g_istoreN W1013 at_4 (pc' := 5) rfl (ls' := #[.val (.int p1), .val (.int p2), .val (.int p3), .val (.int (p1 &&& (255 : Int32))), .unset, .unset, .unset, .unset, .unset, .unset, .unset, .unset, .unset, .unset, .unset]) rfl ?_
  refine g_iloadN W1013 at_5 (pc' := 6) rfl rfl ?_
  refine g_static W1013 at_6 (pc' := 9) rfl (hw _ (List.mem_of_getElem? (i := 4) rfl)) (hw _ (List.mem_of_getElem? (i := 5) rfl)) (hw _ (List.mem_of_getElem? (i := 2) rfl)) (hw _ (List.mem_of_getElem? (i := 6) rfl)) (by decide) (con_hi l Z a0 hw hEL p1 h0) pd__I_C (argsL := [(.int p1)]) (st := []) rfl rfl rfl rfl (by decide) (w := 0) (Nat.le_of_eq rfl) (by decide) (by decide) (by decide) (by simp) (fun q hq => nomatch hq) ?_
  intro v1016 T1017 h1018 S1021 q1019 W1022
  have W1020 := W1022.sf (SF' := []) (fun _ hx => List.mem_append_right _ hx)
  obtain ⟨rfl, rfl⟩ := q1019
  refine g_istore W1020 at_9 (pc' := 11) rfl (ls' := #[.val (.int p1), .val (.int p2), .val (.int p3), .val (.int (p1 &&& (255 : Int32))), .val (.int ((XT.ushr p1 (8 : Int32)) &&& (255 : Int32))), .unset, .unset, .unset, .unset, .unset, .unset, .unset, .unset, .unset, .unset]) rfl ?_
  refine g_iloadN W1020 at_11 (pc' := 12) rfl rfl ?_
  refine g_static W1020 at_12 (pc' := 15) rfl (hw _ (List.mem_of_getElem? (i := 0) rfl)) (hw _ (List.mem_of_getElem? (i := 1) rfl)) (hw _ (List.mem_of_getElem? (i := 2) rfl)) (hw _ (List.mem_of_getElem? (i := 3) rfl)) (by decide) (con_lo l Z a0 hw hEL p2 h0) pd__I_C (argsL := [(.int p2)]) (st := []) rfl rfl rfl rfl (by decide) (w := 0) (Nat.le_of_eq rfl) (by decide) (by decide) (by decide) (by simp) (fun q hq => nomatch hq) ?_
  intro v1023 T1024 h1025 S1028 q1026 W1029
  have W1027 := W1029.sf (SF' := []) (fun _ hx => List.mem_append_right _ hx)
  obtain ⟨rfl, rfl⟩ := q1026
  refine g_istore W1027 at_15 (pc' := 17) rfl (ls' := #[.val (.int p1), .val (.int p2), .val (.int p3), .val (.int (p1 &&& (255 : Int32))), .val (.int ((XT.ushr p1 (8 : Int32)) &&& (255 : Int32))), .val (.int (p2 &&& (255 : Int32))), .unset, .unset, .unset, .unset, .unset, .unset, .unset, .unset, .unset]) rfl ?_
  refine g_iloadN W1027 at_17 (pc' := 18) rfl rfl ?_
  refine g_static W1027 at_18 (pc' := 21) rfl (hw _ (List.mem_of_getElem? (i := 4) rfl)) (hw _ (List.mem_of_getElem? (i := 5) rfl)) (hw _ (List.mem_of_getElem? (i := 2) rfl)) (hw _ (List.mem_of_getElem? (i := 6) rfl)) (by decide) (con_hi l Z a0 hw hEL p2 h0) pd__I_C (argsL := [(.int p2)]) (st := []) rfl rfl rfl rfl (by decide) (w := 0) (Nat.le_of_eq rfl) (by decide) (by decide) (by decide) (by simp) (fun q hq => nomatch hq) ?_
  intro v1030 T1031 h1032 S1035 q1033 W1036
  have W1034 := W1036.sf (SF' := []) (fun _ hx => List.mem_append_right _ hx)
  obtain ⟨rfl, rfl⟩ := q1033
  refine g_istore W1034 at_21 (pc' := 23) rfl (ls' := #[.val (.int p1), .val (.int p2), .val (.int p3), .val (.int (p1 &&& (255 : Int32))), .val (.int ((XT.ushr p1 (8 : Int32)) &&& (255 : Int32))), .val (.int (p2 &&& (255 : Int32))), .val (.int ((XT.ushr p2 (8 : Int32)) &&& (255 : Int32))), .unset, .unset, .unset, .unset, .unset, .unset, .unset, .unset]) rfl ?_
  refine g_iloadN W1034 at_23 (pc' := 24) rfl rfl ?_
  refine g_static W1034 at_24 (pc' := 27) rfl (hw _ (List.mem_of_getElem? (i := 0) rfl)) (hw _ (List.mem_of_getElem? (i := 1) rfl)) (hw _ (List.mem_of_getElem? (i := 2) rfl)) (hw _ (List.mem_of_getElem? (i := 3) rfl)) (by decide) (con_lo l Z a0 hw hEL p3 h0) pd__I_C (argsL := [(.int p3)]) (st := []) rfl rfl rfl rfl (by decide) (w := 0) (Nat.le_of_eq rfl) (by decide) (by decide) (by decide) (by simp) (fun q hq => nomatch hq) ?_
  intro v1037 T1038 h1039 S1042 q1040 W1043
  have W1041 := W1043.sf (SF' := []) (fun _ hx => List.mem_append_right _ hx)
  obtain ⟨rfl, rfl⟩ := q1040
  refine g_istore W1041 at_27 (pc' := 29) rfl (ls' := #[.val (.int p1), .val (.int p2), .val (.int p3), .val (.int (p1 &&& (255 : Int32))), .val (.int ((XT.ushr p1 (8 : Int32)) &&& (255 : Int32))), .val (.int (p2 &&& (255 : Int32))), .val (.int ((XT.ushr p2 (8 : Int32)) &&& (255 : Int32))), .val (.int (p3 &&& (255 : Int32))), .unset, .unset, .unset, .unset, .unset, .unset, .unset]) rfl ?_
  refine g_iloadN W1041 at_29 (pc' := 30) rfl rfl ?_
  refine g_static W1041 at_30 (pc' := 33) rfl (hw _ (List.mem_of_getElem? (i := 4) rfl)) (hw _ (List.mem_of_getElem? (i := 5) rfl)) (hw _ (List.mem_of_getElem? (i := 2) rfl)) (hw _ (List.mem_of_getElem? (i := 6) rfl)) (by decide) (con_hi l Z a0 hw hEL p3 h0) pd__I_C (argsL := [(.int p3)]) (st := []) rfl rfl rfl rfl (by decide) (w := 0) (Nat.le_of_eq rfl) (by decide) (by decide) (by decide) (by simp) (fun q hq => nomatch hq) ?_
  intro v1044 T1045 h1046 S1049 q1047 W1050
  have W1048 := W1050.sf (SF' := []) (fun _ hx => List.mem_append_right _ hx)
  obtain ⟨rfl, rfl⟩ := q1047
  refine g_istore W1048 at_33 (pc' := 35) rfl (ls' := #[.val (.int p1), .val (.int p2), .val (.int p3), .val (.int (p1 &&& (255 : Int32))), .val (.int ((XT.ushr p1 (8 : Int32)) &&& (255 : Int32))), .val (.int (p2 &&& (255 : Int32))), .val (.int ((XT.ushr p2 (8 : Int32)) &&& (255 : Int32))), .val (.int (p3 &&& (255 : Int32))), .val (.int ((XT.ushr p3 (8 : Int32)) &&& (255 : Int32))), .unset, .unset, .unset, .unset, .unset, .unset]) rfl ?_
  exact s35 T1045 (p1 &&& (255 : Int32)) ((XT.ushr p1 (8 : Int32)) &&& (255 : Int32)) (p2 &&& (255 : Int32)) ((XT.ushr p2 (8 : Int32)) &&& (255 : Int32)) (p3 &&& (255 : Int32)) ((XT.ushr p3 (8 : Int32)) &&& (255 : Int32)) (own_bc (own_b255 _) (own_bc (own_b255 _) (own_bc (own_b255 _) (own_bc (own_b255 _) (own_bc (own_b255 _) (own_bc (own_b255 _) own_b0)))))) W1048
set_option maxRecDepth 65536 in
set_option maxHeartbeats 40000000 in
theorem comes_1 {Post : Tables → Env → Array Value → State → Outcome → State → Prop} (hpost : ∀ tb e args s v u, (limb_1_1.after args s (.returned v) u = true ∧ limb_1_2.after args s (.returned v) u = true ∧ True) → ReturnedEndW s (.returned v) u (Jvm.fieldLocs frame_1_writes args s ++ Jvm.arrayLocs frame_1_arrays args s ++ Jvm.staticLocs frame_1_statics s) 56 8064 → Post tb e args s (.returned v) u) :
    ArmFor flags0 classFile x code maxLocals ret World_1 tables_1 room_1 Calls_1 rest_1 Pre_1 Post := by
  intro l hfl _ _ p e ha hc hk s m args below hf hA hF happ hP
  obtain ⟨hcalls, hrest, hpre⟩ := hP
  obtain ⟨-, -, -, hnamed, -, -, -, hat⟩ := (Spec.applies_iff hf).mp happ
  obtain ⟨hg, hn⟩ := and_e (Cond.before_iff.mp (show (Jvm.Cond.and given_1 narrow_1).before args s = true from hpre))
  obtain ⟨g0, r0⟩ := and_e hg
  obtain ⟨g1, r1⟩ := and_e r0
  obtain ⟨g2, r2⟩ := and_e r1
  obtain ⟨w0, w1, w2, rfl⟩ : ∃ w0 w1 w2 : Value, args = #[w0, w1, w2] := by
    have hs : args.size = 3 := by simpa [Cond.value, given_1] using g0
    obtain ⟨L⟩ := args
    match L, hs with
    | [w0, w1, w2], _ => exact ⟨w0, w1, w2, rfl⟩
  have hw := fun d (hd : d ∈ tables_1) => atoms_spec (ws := Jvm.Cond.code x code maxLocals ret :: tables_1) hat d (List.mem_cons_of_mem _ hd)
  have hfit : Fit s := fun {y c} hc i hi => by
    obtain ⟨ha, rfl⟩ := Array.getElem?_eq_some_iff.mp hc
    have q := List.all_eq_true.mp ((Array.all_eq_true_iff_forall_mem.mp hF) _ (Array.getElem_mem ha)) i (List.mem_range.mpr hi)
    simpa [Array.getElem?_eq_getElem hi] using q
  obtain ⟨hsets, hown0⟩ := atoms_of _ (rest_1_c_eq ▸ (show rest_1_c.before _ s = true from hrest))
  obtain ⟨i0, ei0⟩ := is_v g1
  obtain rfl : w0 = (.int i0) := Option.some.inj ei0
  obtain ⟨i1, ei1⟩ := is_v g2
  obtain rfl : w1 = (.int i1) := Option.some.inj ei1
  obtain ⟨i2, ei2⟩ := is_v r2
  obtain rfl : w2 = (.int i2) := Option.some.inj ei2
  have n5 := not_v (Cond.before_iff.mp (hsets _ (List.mem_of_getElem? (i := 2) rfl)))
  obtain ⟨zc, ezc⟩ := is_v (Cond.before_iff.mp (hsets _ (List.mem_of_getElem? (i := 1) rfl)))
  have SC : Sta s s.heap "java/lang/String" "COMPACT_STRINGS" "Z" (.int zc) := Sta.start ezc (Or.inl (hsets _ (List.mem_of_getElem? (i := 0) rfl)))
  have hzc : ¬ (zc = (0 : Int32)) := gotF (Cond.eq_ints ezc (Term.int_eval (0))) n5
  have hEL : EW s _ consts_1 := (EW.cons (text := own_text 106) (hw _ (List.mem_of_getElem? (i := 106) rfl)) (by decide +kernel) (EW.cons (text := own_text 132) (hw _ (List.mem_of_getElem? (i := 132) rfl)) (by decide +kernel) EW.nil))
  have hCH : CHv s consts_1 s.vm s.heap := CHv.start hEL (fun q hq => hcalls.2.2.1 q hq) (hsets _ (List.mem_of_getElem? (i := 2) rfl)) (hw _ (List.mem_of_getElem? (i := 26) rfl)) (hw _ (List.mem_of_getElem? (i := 8) rfl))
  have hst : l.stackTraces = true := by unfold Launch.stackTraces; rw [hfl]; decide +kernel
  obtain ⟨uu, euu⟩ := arr_v (Cond.before_iff.mp (hsets _ (List.mem_of_getElem? (i := 17) rfl)))
  have SU : Sta s s.heap "java/lang/Throwable" "UNASSIGNED_STACK" "[Ljava/lang/StackTraceElement;" (.ref uu) := Sta.start euu (Or.inl (hsets _ (List.mem_of_getElem? (i := 15) rfl)))
  obtain ⟨sn, esn⟩ := exa_v (Cond.before_iff.mp (hsets _ (List.mem_of_getElem? (i := 22) rfl)))
  have SN : Sta s s.heap "java/lang/Throwable" "SUPPRESSED_SENTINEL" "Ljava/util/List;" (.ref sn) := Sta.start esn (Or.inl (hsets _ (List.mem_of_getElem? (i := 20) rfl)))
  obtain ⟨n, o, h1, h2, h3, v, SFo, rfl, rfl, -, -, hq⟩ := con_law l s _ hw hEL zc SC hzc hst uu sn SU SN i0 i1 i2 s.heap (own_ext_rf _) p e ha hc hk s m _ below hf ((Spec.applies_iff_loose hf).mp happ).1 ⟨rfl, State.Warmed39.refl s, rfl, hCH, fun q hq => nomatch hq⟩ ⟨own_tk hcalls.2.1, own_fk hf hcalls.1⟩
  exact ⟨n, _, h1, h2, h3, hpost _ _ _ _ _ _ ⟨Cond.after_iff.mpr rfl, Cond.after_iff.mpr (eq_i res_at (Term.int_eval (1)) rfl), trivial⟩ hq⟩
theorem main_1_1 : Claimed_1_1 := comes_1 fun _ _ _ _ _ _ h hF => ⟨h.1, hF⟩
theorem main_1_2 : Claimed_1_2 := comes_1 fun _ _ _ _ _ _ h hF => ⟨h.2.1, hF⟩
end Jvm.Pilot.@@N@@
namespace Jvm.Pilot.@@N@@
open Jvm Jvm.ClassFile Sem Op Lib Jvm.Free Jvm.Stand Jvm.Pilot.@@N@@.Jvm.D
/-! MADE BY PROGRAM (witnessworld.py) out of the Statement's table words and the real class files: 41 classes; the members and pool entries that the words name. The judged class is class 1, her method 3. -/
namespace start1
open Jvm.ClassFile
def u (s : String) : CpInfo := .utf8 (stringToUtf16 s)
/-- a pool by its gaps: so many unusable entries, then the entry; so many at the end -/
def gap : Nat → List CpInfo → List CpInfo
  | 0, r => r
  | n + 1, r => .unusable :: gap n r
def poolList (es : List (Nat × CpInfo)) (last : Nat) : List CpInfo := es.foldr (fun e r => gap e.1 (e.2 :: r)) (gap last [])
def pool (es : List (Nat × CpInfo)) (last : Nat) : Array CpInfo := ⟨poolList es last⟩
def fileOf (pool : Array CpInfo) (this : Nat) (attrs : Array Attribute := #[]) (ms : Array MethodInfo := #[]) (fl : Nat := 33) (sup : Nat := 0) (ifs : Array Nat := #[]) (fds : Array FieldInfo := #[]) : ClassFile where
  minorVersion := 0
  majorVersion := 65
  constantPool := pool
  accessFlags := fl
  thisClass := this
  superClass := sup
  interfaces := ifs
  fields := fds
  methods := ms
  attributes := attrs
def plain (name : String) (sup : Option ClassId) : Class where
  name := name
  kind := .ordinary
  loader := none
  accessFlags := 33
  super := sup
  interfaces := #[]
  cf := none
  fields := #[]
  methods := #[]
  instanceTypes := #[]
  staticTypes := #[]
  resolved := #[]
  callSites := []
  init := .initialized
  statics := none
  mirror := none

def pool0 : Array CpInfo := pool [(5, u "<init>"), (0, u "()V"), (1, .class_ 10), (1, u "java/lang/Object"), (85, u "clone"), (0, u "()Ljava/lang/Object;")] 26

def k0c0 : Code := { maxStack := 0, maxLocals := 1, code := object_method_1_code, exceptionTable := #[], attributes := #[] }
def k0m0 : Method := { name := "<init>", desc := "()V", sig := { parameters := [], returnType := none }, accessFlags := 1, code := some k0c0 }
def k0m1 : Method := { name := "clone", desc := "()Ljava/lang/Object;", sig := { parameters := [], returnType := some (.object "java/lang/Object") }, accessFlags := 260, code := none }
/-- java/lang/Object -/
def k0 : Class := { plain "java/lang/Object" none with
  accessFlags := 33
  interfaces := #[]
  cf := some (fileOf pool0 8 #[] #[{ accessFlags := 1, nameIndex := 5, descriptorIndex := 6, attributes := #[] }, { accessFlags := 260, nameIndex := 96, descriptorIndex := 97, attributes := #[] }] 33 0 #[] #[])
  fields := #[]
  methods := #[k0m0, k0m1]
  instanceTypes := #[]
  staticTypes := #[]
  resolved := Array.replicate 124 none
  statics := none }

def pool1 : Array CpInfo := pool [(2, .class_ 4), (1, u "java/lang/Object"), (0, u "<init>"), (0, u "()V"), (0, .methodref 8 9), (0, .class_ 10), (0, .nameAndType 11 12), (0, u "com/example/shardwright/shardwright/CommandExceptionMisfitPinLaw"), (0, u "lo"), (0, u "(I)C"), (0, .methodref 8 14), (0, .nameAndType 15 12), (0, u "hi"), (0, .class_ 17), (0, u "java/lang/String"), (0, .methodref 16 19), (0, .nameAndType 5 20), (0, u "([C)V"), (0, .methodref 22 23), (0, .class_ 24), (0, .nameAndType 25 26), (0, u "com/example/shardwright/shardwright/CommandException"), (0, u "misfit"), (0, u "(Ljava/lang/String;Ljava/lang/String;Ljava/lang/String;)Lcom/example/shardwright/shardwright/CommandException;"), (0, .methodref 22 28), (0, .nameAndType 29 30), (0, u "getMessage"), (0, u "()Ljava/lang/String;"), (0, .methodref 16 32), (0, .nameAndType 33 34), (0, u "equals"), (0, u "(Ljava/lang/Object;)Z"), (0, .methodref 22 36), (0, .nameAndType 37 38), (0, u "exitCode"), (0, u "()I"), (0, .methodref 22 40), (0, .nameAndType 41 42), (0, u "showsUsage"), (0, u "()Z"), (2, u "law"), (0, u "(III)Z")] 3

def k1m0 : Method := { name := "<init>", desc := "()V", sig := { parameters := [], returnType := none }, accessFlags := 2, code := none }
def k1c1 : Code := { maxStack := 2, maxLocals := 1, code := method_2_code, exceptionTable := #[], attributes := #[] }
def k1m1 : Method := { name := "lo", desc := "(I)C", sig := { parameters := [.int], returnType := some .char }, accessFlags := 10, code := some k1c1 }
def k1c2 : Code := { maxStack := 2, maxLocals := 1, code := method_3_code, exceptionTable := #[], attributes := #[] }
def k1m2 : Method := { name := "hi", desc := "(I)C", sig := { parameters := [.int], returnType := some .char }, accessFlags := 10, code := some k1c2 }
def k1c3 : Code := { maxStack := 6, maxLocals := 15, code := code, exceptionTable := #[], attributes := #[] }
def k1m3 : Method := { name := "law", desc := "(III)Z", sig := { parameters := [.int, .int, .int], returnType := some .boolean }, accessFlags := 9, code := some k1c3 }
/-- com/example/shardwright/shardwright/CommandExceptionMisfitPinLaw -/
def k1 : Class := { plain "com/example/shardwright/shardwright/CommandExceptionMisfitPinLaw" (some 0) with
  accessFlags := 49
  interfaces := #[]
  cf := some (fileOf pool1 8 #[] #[{ accessFlags := 2, nameIndex := 5, descriptorIndex := 6, attributes := #[] }, { accessFlags := 10, nameIndex := 11, descriptorIndex := 12, attributes := #[] }, { accessFlags := 10, nameIndex := 15, descriptorIndex := 12, attributes := #[] }, { accessFlags := 9, nameIndex := 45, descriptorIndex := 46, attributes := #[] }] 49 2 #[] #[])
  fields := #[]
  methods := #[k1m0, k1m1, k1m2, k1m3]
  instanceTypes := #[]
  staticTypes := #[]
  resolved := Array.replicate 50 none
  statics := none }

def pool2 : Array CpInfo := pool [(1, .class_ 2), (0, u "java/io/Serializable"), (0, .class_ 4), (0, u "java/lang/Object")] 2

/-- java/io/Serializable -/
def k2 : Class := { plain "java/io/Serializable" (some 0) with
  accessFlags := 1537
  interfaces := #[]
  cf := some (fileOf pool2 1 #[] #[] 1537 3 #[] #[])
  fields := #[]
  methods := #[]
  instanceTypes := #[]
  staticTypes := #[]
  resolved := Array.replicate 7 none
  statics := none }

def pool3 : Array CpInfo := pool [(1, .class_ 2), (0, u "java/lang/Comparable"), (0, .class_ 4), (0, u "java/lang/Object")] 7

/-- java/lang/Comparable -/
def k3 : Class := { plain "java/lang/Comparable" (some 0) with
  accessFlags := 1537
  interfaces := #[]
  cf := some (fileOf pool3 1 #[] #[] 1537 3 #[] #[])
  fields := #[]
  methods := #[]
  instanceTypes := #[]
  staticTypes := #[]
  resolved := Array.replicate 12 none
  statics := none }

def pool4 : Array CpInfo := pool [(2, .class_ 4), (1, u "java/lang/CharSequence"), (42, .class_ 48), (0, u "java/lang/CharSequence$1CodePointIterator"), (10, .class_ 60), (0, u "java/lang/CharSequence$1CharIterator"), (5, .class_ 67), (0, u "java/lang/Object")] 63

/-- java/lang/CharSequence -/
def k4 : Class := { plain "java/lang/CharSequence" (some 0) with
  accessFlags := 1537
  interfaces := #[]
  cf := some (fileOf pool4 2 #[.nestMembers #[47, 59]] #[] 1537 66 #[] #[])
  fields := #[]
  methods := #[]
  instanceTypes := #[]
  staticTypes := #[]
  resolved := Array.replicate 131 none
  statics := none }

def pool5 : Array CpInfo := pool [(1, .class_ 2), (0, u "java/lang/constant/Constable"), (0, .class_ 4), (0, u "java/lang/Object")] 6

/-- java/lang/constant/Constable -/
def k5 : Class := { plain "java/lang/constant/Constable" (some 0) with
  accessFlags := 1537
  interfaces := #[]
  cf := some (fileOf pool5 1 #[] #[] 1537 3 #[] #[])
  fields := #[]
  methods := #[]
  instanceTypes := #[]
  staticTypes := #[]
  resolved := Array.replicate 11 none
  statics := none }

def pool6 : Array CpInfo := pool [(1, .class_ 2), (0, u "java/lang/constant/ConstantDesc"), (0, .class_ 4), (0, u "java/lang/Object")] 32

/-- java/lang/constant/ConstantDesc -/
def k6 : Class := { plain "java/lang/constant/ConstantDesc" (some 0) with
  accessFlags := 1537
  interfaces := #[]
  cf := some (fileOf pool6 1 #[] #[] 1537 3 #[] #[])
  fields := #[]
  methods := #[]
  instanceTypes := #[]
  staticTypes := #[]
  resolved := Array.replicate 37 none
  statics := none }

def pool7 : Array CpInfo := pool [(1, .methodref 2 3), (0, .class_ 4), (0, .nameAndType 5 6), (0, u "java/lang/Object"), (0, u "<init>"), (0, u "()V"), (2, .fieldref 10 11), (0, .class_ 12), (0, .nameAndType 13 14), (0, u "java/lang/String"), (0, u "value"), (0, u "[B"), (0, .fieldref 10 16), (0, .nameAndType 17 18), (0, u "coder"), (0, u "B"), (2, u "hash"), (0, u "I"), (2, u "hashIsZero"), (0, u "Z"), (0, .methodref 10 28), (0, .nameAndType 5 29), (0, u "([CIILjava/lang/Void;)V"), (8, .fieldref 10 39), (0, .nameAndType 40 26), (0, u "COMPACT_STRINGS"), (1, .class_ 44), (1, u "java/lang/StringUTF16"), (0, u "compress"), (1, .methodref 42 48), (0, .nameAndType 49 50), (0, u "coderFromArrayLen"), (0, u "([BI)B"), (3, .methodref 55 56), (0, .class_ 57), (0, .nameAndType 58 59), (0, u "java/util/Arrays"), (0, u "copyOfRange"), (0, u "([BII)[B"), (47, .class_ 109), (1, u "java/lang/StringLatin1"), (32, u "()Z"), (34, .methodref 42 178), (0, .nameAndType 45 179), (0, u "([CII)[B"), (13, .class_ 195), (1, u "java/lang/System"), (16, .methodref 193 213), (0, .nameAndType 214 215), (0, u "arraycopy"), (0, u "(Ljava/lang/Object;ILjava/lang/Object;II)V"), (118, u "()I"), (0, .methodref 10 336), (0, .nameAndType 17 337), (0, u "()B"), (2, u "()[B"), (148, .methodref 10 490), (0, .nameAndType 5 491), (0, u "(Ljava/lang/AbstractStringBuilder;Ljava/lang/Void;)V"), (1, .nameAndType 494 142), (0, u "isLatin1"), (11, .nameAndType 507 334), (0, u "length"), (24, u "getBytes"), (8, .methodref 107 542), (0, .nameAndType 543 544), (0, u "equals"), (0, u "([B[B)Z"), (4, .methodref 550 506), (0, .class_ 551), (0, u "java/lang/AbstractStringBuilder"), (0, .methodref 550 553), (0, .nameAndType 554 340), (0, u "getValue"), (18, u "(Ljava/lang/Object;)Z"), (1, .class_ 576), (0, u "java/lang/CharSequence"), (22, u "CASE_INSENSITIVE_ORDER"), (0, u "Ljava/util/Comparator;"), (220, u "([BIB)V"), (188, u "([C)V"), (36, .methodref 550 493), (53, u "serialPersistentFields"), (0, u "[Ljava/io/ObjectStreamField;"), (0, .class_ 1104), (0, u "java/lang/String$CaseInsensitiveComparator"), (1, .class_ 1107), (0, u "java/io/Serializable"), (0, .class_ 1109), (0, u "java/lang/Comparable"), (0, .class_ 1111), (0, u "java/lang/constant/Constable"), (0, .class_ 1113), (0, u "java/lang/constant/ConstantDesc"), (2, u "serialVersionUID"), (0, u "J"), (3, u "REPL"), (0, u "C"), (2, u "LATIN1"), (1, u "UTF16"), (105, u "(Ljava/lang/StringBuilder;)V")] 217

def k7m0 : Method := { name := "<init>", desc := "()V", sig := { parameters := [], returnType := none }, accessFlags := 1, code := none }
def k7c1 : Code := { maxStack := 5, maxLocals := 2, code := jdk_42_method_3_code, exceptionTable := #[], attributes := #[] }
def k7m1 : Method := { name := "<init>", desc := "([C)V", sig := { parameters := [(.array .char)], returnType := none }, accessFlags := 1, code := some k7c1 }
def k7c2 : Code := { maxStack := 3, maxLocals := 2, code := jdk_42_method_53_code, exceptionTable := #[], attributes := #[] }
def k7m2 : Method := { name := "<init>", desc := "(Ljava/lang/StringBuilder;)V", sig := { parameters := [(.object "java/lang/StringBuilder")], returnType := none }, accessFlags := 1, code := some k7c2 }
def k7c3 : Code := { maxStack := 2, maxLocals := 1, code := jdk_42_method_54_code, exceptionTable := #[], attributes := #[] }
def k7m3 : Method := { name := "length", desc := "()I", sig := { parameters := [], returnType := some .int }, accessFlags := 1, code := some k7c3 }
def k7c4 : Code := { maxStack := 2, maxLocals := 3, code := jdk_42_method_66_code, exceptionTable := #[], attributes := #[] }
def k7m4 : Method := { name := "equals", desc := "(Ljava/lang/Object;)Z", sig := { parameters := [(.object "java/lang/Object")], returnType := some .boolean }, accessFlags := 1, code := some k7c4 }
def k7c5 : Code := { maxStack := 5, maxLocals := 4, code := jdk_42_method_147_code, exceptionTable := #[], attributes := #[] }
def k7m5 : Method := { name := "getBytes", desc := "([BIB)V", sig := { parameters := [(.array .byte), .int, .byte], returnType := none }, accessFlags := 0, code := some k7c5 }
def k7c6 : Code := { maxStack := 4, maxLocals := 6, code := jdk_42_method_149_code, exceptionTable := #[], attributes := #[] }
def k7m6 : Method := { name := "<init>", desc := "([CIILjava/lang/Void;)V", sig := { parameters := [(.array .char), .int, .int, (.object "java/lang/Void")], returnType := none }, accessFlags := 2, code := some k7c6 }
def k7c7 : Code := { maxStack := 5, maxLocals := 5, code := jdk_42_method_150_code, exceptionTable := #[], attributes := #[] }
def k7m7 : Method := { name := "<init>", desc := "(Ljava/lang/AbstractStringBuilder;Ljava/lang/Void;)V", sig := { parameters := [(.object "java/lang/AbstractStringBuilder"), (.object "java/lang/Void")], returnType := none }, accessFlags := 0, code := some k7c7 }
def k7c8 : Code := { maxStack := 1, maxLocals := 1, code := jdk_42_method_152_code, exceptionTable := #[], attributes := #[] }
def k7m8 : Method := { name := "coder", desc := "()B", sig := { parameters := [], returnType := some .byte }, accessFlags := 0, code := some k7c8 }
/-- java/lang/String -/
def k7 : Class := { plain "java/lang/String" (some 0) with
  accessFlags := 49
  interfaces := #[2, 3, 4, 5, 6]
  cf := some (fileOf pool7 10 #[.nestMembers #[1103]] #[{ accessFlags := 1, nameIndex := 5, descriptorIndex := 6, attributes := #[] }, { accessFlags := 1, nameIndex := 5, descriptorIndex := 1010, attributes := #[] }, { accessFlags := 1, nameIndex := 5, descriptorIndex := 1233, attributes := #[] }, { accessFlags := 1, nameIndex := 507, descriptorIndex := 334, attributes := #[] }, { accessFlags := 1, nameIndex := 543, descriptorIndex := 573, attributes := #[] }, { accessFlags := 0, nameIndex := 532, descriptorIndex := 821, attributes := #[] }, { accessFlags := 2, nameIndex := 5, descriptorIndex := 29, attributes := #[] }, { accessFlags := 0, nameIndex := 5, descriptorIndex := 491, attributes := #[] }, { accessFlags := 0, nameIndex := 17, descriptorIndex := 337, attributes := #[] }] 49 2 #[1106, 1108, 575, 1110, 1112] #[{ accessFlags := 18, nameIndex := 13, descriptorIndex := 14, attributes := #[] }, { accessFlags := 18, nameIndex := 17, descriptorIndex := 18, attributes := #[] }, { accessFlags := 2, nameIndex := 21, descriptorIndex := 22, attributes := #[] }, { accessFlags := 2, nameIndex := 25, descriptorIndex := 26, attributes := #[] }, { accessFlags := 26, nameIndex := 1116, descriptorIndex := 1117, attributes := #[] }, { accessFlags := 24, nameIndex := 40, descriptorIndex := 26, attributes := #[] }, { accessFlags := 26, nameIndex := 1101, descriptorIndex := 1102, attributes := #[] }, { accessFlags := 26, nameIndex := 1121, descriptorIndex := 1122, attributes := #[] }, { accessFlags := 25, nameIndex := 599, descriptorIndex := 600, attributes := #[] }, { accessFlags := 24, nameIndex := 1125, descriptorIndex := 18, attributes := #[] }, { accessFlags := 24, nameIndex := 1127, descriptorIndex := 18, attributes := #[] }])
  fields := #[{ name := "value", type := (.array .byte), accessFlags := 18, slot := 0, constantValue := 0 }, { name := "coder", type := .byte, accessFlags := 18, slot := 1, constantValue := 0 }, { name := "hash", type := .int, accessFlags := 2, slot := 2, constantValue := 0 }, { name := "hashIsZero", type := .boolean, accessFlags := 2, slot := 3, constantValue := 0 }, { name := "serialVersionUID", type := .long, accessFlags := 26, slot := 0, constantValue := 0 }, { name := "COMPACT_STRINGS", type := .boolean, accessFlags := 24, slot := 1, constantValue := 0 }, { name := "serialPersistentFields", type := (.array (.object "java/io/ObjectStreamField")), accessFlags := 26, slot := 2, constantValue := 0 }, { name := "REPL", type := .char, accessFlags := 26, slot := 3, constantValue := 0 }, { name := "CASE_INSENSITIVE_ORDER", type := (.object "java/util/Comparator"), accessFlags := 25, slot := 4, constantValue := 0 }, { name := "LATIN1", type := .byte, accessFlags := 24, slot := 5, constantValue := 0 }, { name := "UTF16", type := .byte, accessFlags := 24, slot := 6, constantValue := 0 }]
  methods := #[k7m0, k7m1, k7m2, k7m3, k7m4, k7m5, k7m6, k7m7, k7m8]
  instanceTypes := #[(.array .byte), .byte, .int, .boolean]
  staticTypes := #[.long, .boolean, (.array (.object "java/io/ObjectStreamField")), .char, (.object "java/util/Comparator"), .byte, .byte]
  resolved := Array.replicate 1451 none
  statics := some 0 }

def pool8 : Array CpInfo := pool [(6, .class_ 8), (1, u "java/lang/Object"), (0, u "<init>"), (0, u "()V"), (1, .class_ 14), (1, u "java/lang/StringUTF16"), (31, u "$assertionsDisabled"), (0, u "Z"), (13, u "HI_BYTE_SHIFT"), (0, u "I"), (2, u "LO_BYTE_SHIFT"), (49, .methodref 12 116), (0, .nameAndType 117 118), (0, u "compress"), (0, u "([CI[BII)I"), (3, u "([CII)[B"), (138, u "coderFromArrayLen"), (0, u "([BI)B"), (106, .class_ 371), (1, u "java/lang/StringUTF16$LinesSpliterator"), (58, u "MAX_LENGTH"), (196, .class_ 628), (0, u "java/lang/StringUTF16$CodePointsSpliterator"), (0, .class_ 630), (0, u "java/lang/StringUTF16$CharsSpliterator")] 4

def k8m0 : Method := { name := "<init>", desc := "()V", sig := { parameters := [], returnType := none }, accessFlags := 0, code := none }
def k8c1 : Code := { maxStack := 2, maxLocals := 2, code := jdk_52_method_15_code, exceptionTable := #[], attributes := #[] }
def k8m1 : Method := { name := "coderFromArrayLen", desc := "([BI)B", sig := { parameters := [(.array .byte), .int], returnType := some .byte }, accessFlags := 8, code := some k8c1 }
def k8c2 : Code := { maxStack := 5, maxLocals := 6, code := jdk_52_method_16_code, exceptionTable := #[], attributes := #[] }
def k8m2 : Method := { name := "compress", desc := "([CII)[B", sig := { parameters := [(.array .char), .int, .int], returnType := some (.array .byte) }, accessFlags := 9, code := some k8c2 }
def k8c3 : Code := { maxStack := 3, maxLocals := 7, code := jdk_52_method_21_code, exceptionTable := #[], attributes := #[] }
def k8m3 : Method := { name := "compress", desc := "([CI[BII)I", sig := { parameters := [(.array .char), .int, (.array .byte), .int, .int], returnType := some .int }, accessFlags := 9, code := some k8c3 }
/-- java/lang/StringUTF16 -/
def k8 : Class := { plain "java/lang/StringUTF16" (some 0) with
  accessFlags := 48
  interfaces := #[]
  cf := some (fileOf pool8 12 #[.nestMembers #[627, 629, 369]] #[{ accessFlags := 0, nameIndex := 9, descriptorIndex := 10, attributes := #[] }, { accessFlags := 8, nameIndex := 261, descriptorIndex := 262, attributes := #[] }, { accessFlags := 9, nameIndex := 117, descriptorIndex := 122, attributes := #[] }, { accessFlags := 9, nameIndex := 117, descriptorIndex := 118, attributes := #[] }] 48 6 #[] #[{ accessFlags := 26, nameIndex := 61, descriptorIndex := 62, attributes := #[] }, { accessFlags := 26, nameIndex := 65, descriptorIndex := 62, attributes := #[] }, { accessFlags := 24, nameIndex := 430, descriptorIndex := 62, attributes := #[] }, { accessFlags := 4120, nameIndex := 46, descriptorIndex := 47, attributes := #[] }])
  fields := #[{ name := "HI_BYTE_SHIFT", type := .int, accessFlags := 26, slot := 0, constantValue := 0 }, { name := "LO_BYTE_SHIFT", type := .int, accessFlags := 26, slot := 1, constantValue := 0 }, { name := "MAX_LENGTH", type := .int, accessFlags := 24, slot := 2, constantValue := 0 }, { name := "$assertionsDisabled", type := .boolean, accessFlags := 4120, slot := 3, constantValue := 0 }]
  methods := #[k8m0, k8m1, k8m2, k8m3]
  instanceTypes := #[]
  staticTypes := #[.int, .int, .int, .boolean]
  resolved := Array.replicate 635 none
  statics := none }

def pool9 : Array CpInfo := pool [(1, .methodref 2 3), (0, .class_ 4), (0, .nameAndType 5 6), (0, u "java/lang/Object"), (0, u "<init>"), (0, u "()V"), (0, .fieldref 8 9), (0, .class_ 10), (0, .nameAndType 11 12), (0, u "java/lang/Throwable"), (0, u "cause"), (0, u "Ljava/lang/Throwable;"), (0, .fieldref 8 14), (0, .nameAndType 15 16), (0, u "UNASSIGNED_STACK"), (0, u "[Ljava/lang/StackTraceElement;"), (0, .fieldref 8 18), (0, .nameAndType 19 16), (0, u "stackTrace"), (0, .fieldref 8 21), (0, .nameAndType 22 23), (0, u "SUPPRESSED_SENTINEL"), (0, u "Ljava/util/List;"), (0, .fieldref 8 25), (0, .nameAndType 26 23), (0, u "suppressedExceptions"), (0, .methodref 8 28), (0, .nameAndType 29 30), (0, u "fillInStackTrace"), (0, u "()Ljava/lang/Throwable;"), (0, .fieldref 8 32), (0, .nameAndType 33 34), (0, u "detailMessage"), (0, u "Ljava/lang/String;"), (3, u "()Ljava/lang/String;"), (2, u "getMessage"), (51, .class_ 94), (0, u "java/lang/Throwable$WrappedPrintStream"), (6, .class_ 103), (1, u "java/lang/Throwable$PrintStreamOrWriter"), (61, u "$assertionsDisabled"), (0, u "Z"), (26, .class_ 194), (0, u "java/lang/Throwable$WrappedPrintWriter"), (3, .fieldref 8 199), (0, .nameAndType 200 201), (0, u "backtrace"), (0, u "Ljava/lang/Object;"), (0, .methodref 8 203), (0, .nameAndType 29 204), (0, u "(I)Ljava/lang/Throwable;"), (6, u "depth"), (0, u "I"), (10, u "(Ljava/lang/String;)V"), (45, .class_ 271), (1, u "java/lang/Throwable$SentinelHolder"), (32, u "EMPTY_THROWABLE_ARRAY"), (0, u "[Ljava/lang/Throwable;"), (12, .class_ 319), (0, u "java/io/Serializable"), (0, u "serialVersionUID"), (0, u "J"), (5, u "NULL_CAUSE_MESSAGE"), (0, u "SELF_SUPPRESSION_MESSAGE"), (0, u "CAUSE_CAPTION"), (0, u "SUPPRESSED_CAPTION")] 73

def k9c0 : Code := { maxStack := 2, maxLocals := 1, code := jdk_78_method_1_code, exceptionTable := #[], attributes := #[] }
def k9m0 : Method := { name := "<init>", desc := "()V", sig := { parameters := [], returnType := none }, accessFlags := 1, code := some k9c0 }
def k9c1 : Code := { maxStack := 2, maxLocals := 2, code := jdk_78_method_2_code, exceptionTable := #[], attributes := #[] }
def k9m1 : Method := { name := "<init>", desc := "(Ljava/lang/String;)V", sig := { parameters := [(.object "java/lang/String")], returnType := none }, accessFlags := 1, code := some k9c1 }
def k9c2 : Code := { maxStack := 1, maxLocals := 1, code := jdk_78_method_6_code, exceptionTable := #[], attributes := #[] }
def k9m2 : Method := { name := "getMessage", desc := "()Ljava/lang/String;", sig := { parameters := [], returnType := some (.object "java/lang/String") }, accessFlags := 1, code := some k9c2 }
def k9c3 : Code := { maxStack := 2, maxLocals := 1, code := ⟨#[0x2a, 0xb4, 0x00, 0x11, 0xc7, 0x00, 0x0a, 0x2a, 0xb4, 0x00, 0xc6, 0xc6, 0x00, 0x10, 0x2a, 0x03, 0xb6, 0x00, 0xca, 0x57, 0x2a, 0xb2, 0x00, 0x0d, 0xb5, 0x00, 0x11, 0x2a, 0xb0]⟩, exceptionTable := #[], attributes := #[] }
def k9m3 : Method := { name := "fillInStackTrace", desc := "()Ljava/lang/Throwable;", sig := { parameters := [], returnType := some (.object "java/lang/Throwable") }, accessFlags := 33, code := some k9c3 }
def k9m4 : Method := { name := "fillInStackTrace", desc := "(I)Ljava/lang/Throwable;", sig := { parameters := [.int], returnType := some (.object "java/lang/Throwable") }, accessFlags := 258, code := none }
/-- java/lang/Throwable -/
def k9 : Class := { plain "java/lang/Throwable" (some 0) with
  accessFlags := 33
  interfaces := #[2]
  cf := some (fileOf pool9 8 #[.nestMembers #[193, 93, 101, 269]] #[{ accessFlags := 1, nameIndex := 5, descriptorIndex := 6, attributes := #[] }, { accessFlags := 1, nameIndex := 5, descriptorIndex := 223, attributes := #[] }, { accessFlags := 1, nameIndex := 41, descriptorIndex := 38, attributes := #[] }, { accessFlags := 33, nameIndex := 29, descriptorIndex := 30, attributes := #[] }, { accessFlags := 258, nameIndex := 29, descriptorIndex := 204, attributes := #[] }] 33 2 #[318] #[{ accessFlags := 26, nameIndex := 320, descriptorIndex := 321, attributes := #[] }, { accessFlags := 130, nameIndex := 200, descriptorIndex := 201, attributes := #[] }, { accessFlags := 2, nameIndex := 33, descriptorIndex := 34, attributes := #[] }, { accessFlags := 26, nameIndex := 15, descriptorIndex := 16, attributes := #[] }, { accessFlags := 2, nameIndex := 11, descriptorIndex := 12, attributes := #[] }, { accessFlags := 2, nameIndex := 19, descriptorIndex := 16, attributes := #[] }, { accessFlags := 130, nameIndex := 211, descriptorIndex := 212, attributes := #[] }, { accessFlags := 26, nameIndex := 22, descriptorIndex := 23, attributes := #[] }, { accessFlags := 2, nameIndex := 26, descriptorIndex := 23, attributes := #[] }, { accessFlags := 26, nameIndex := 327, descriptorIndex := 34, attributes := #[] }, { accessFlags := 26, nameIndex := 328, descriptorIndex := 34, attributes := #[] }, { accessFlags := 26, nameIndex := 329, descriptorIndex := 34, attributes := #[] }, { accessFlags := 26, nameIndex := 330, descriptorIndex := 34, attributes := #[] }, { accessFlags := 26, nameIndex := 304, descriptorIndex := 305, attributes := #[] }, { accessFlags := 4120, nameIndex := 165, descriptorIndex := 166, attributes := #[] }])
  fields := #[{ name := "serialVersionUID", type := .long, accessFlags := 26, slot := 0, constantValue := 0 }, { name := "backtrace", type := (.object "java/lang/Object"), accessFlags := 130, slot := 0, constantValue := 0 }, { name := "detailMessage", type := (.object "java/lang/String"), accessFlags := 2, slot := 1, constantValue := 0 }, { name := "UNASSIGNED_STACK", type := (.array (.object "java/lang/StackTraceElement")), accessFlags := 26, slot := 1, constantValue := 0 }, { name := "cause", type := (.object "java/lang/Throwable"), accessFlags := 2, slot := 2, constantValue := 0 }, { name := "stackTrace", type := (.array (.object "java/lang/StackTraceElement")), accessFlags := 2, slot := 3, constantValue := 0 }, { name := "depth", type := .int, accessFlags := 130, slot := 4, constantValue := 0 }, { name := "SUPPRESSED_SENTINEL", type := (.object "java/util/List"), accessFlags := 26, slot := 2, constantValue := 0 }, { name := "suppressedExceptions", type := (.object "java/util/List"), accessFlags := 2, slot := 5, constantValue := 0 }, { name := "NULL_CAUSE_MESSAGE", type := (.object "java/lang/String"), accessFlags := 26, slot := 3, constantValue := 0 }, { name := "SELF_SUPPRESSION_MESSAGE", type := (.object "java/lang/String"), accessFlags := 26, slot := 4, constantValue := 0 }, { name := "CAUSE_CAPTION", type := (.object "java/lang/String"), accessFlags := 26, slot := 5, constantValue := 0 }, { name := "SUPPRESSED_CAPTION", type := (.object "java/lang/String"), accessFlags := 26, slot := 6, constantValue := 0 }, { name := "EMPTY_THROWABLE_ARRAY", type := (.array (.object "java/lang/Throwable")), accessFlags := 26, slot := 7, constantValue := 0 }, { name := "$assertionsDisabled", type := .boolean, accessFlags := 4120, slot := 8, constantValue := 0 }]
  methods := #[k9m0, k9m1, k9m2, k9m3, k9m4]
  instanceTypes := #[(.object "java/lang/Object"), (.object "java/lang/String"), (.object "java/lang/Throwable"), (.array (.object "java/lang/StackTraceElement")), .int, (.object "java/util/List")]
  staticTypes := #[.long, (.array (.object "java/lang/StackTraceElement")), (.object "java/util/List"), (.object "java/lang/String"), (.object "java/lang/String"), (.object "java/lang/String"), (.object "java/lang/String"), (.array (.object "java/lang/Throwable")), .boolean]
  resolved := Array.replicate 404 none
  statics := some 1 }

def pool10 : Array CpInfo := pool [(2, .class_ 4), (1, u "java/lang/Throwable"), (0, u "<init>"), (0, u "()V"), (0, .methodref 2 8), (0, .nameAndType 5 9), (0, u "(Ljava/lang/String;)V"), (9, .class_ 20), (0, u "java/lang/Exception"), (0, u "serialVersionUID"), (0, u "J")] 17

def k10m0 : Method := { name := "<init>", desc := "()V", sig := { parameters := [], returnType := none }, accessFlags := 1, code := none }
def k10c1 : Code := { maxStack := 2, maxLocals := 2, code := jdk_59_method_2_code, exceptionTable := #[], attributes := #[] }
def k10m1 : Method := { name := "<init>", desc := "(Ljava/lang/String;)V", sig := { parameters := [(.object "java/lang/String")], returnType := none }, accessFlags := 1, code := some k10c1 }
/-- java/lang/Exception -/
def k10 : Class := { plain "java/lang/Exception" (some 9) with
  accessFlags := 33
  interfaces := #[]
  cf := some (fileOf pool10 19 #[] #[{ accessFlags := 1, nameIndex := 5, descriptorIndex := 6, attributes := #[] }, { accessFlags := 1, nameIndex := 5, descriptorIndex := 9, attributes := #[] }] 33 2 #[] #[{ accessFlags := 24, nameIndex := 21, descriptorIndex := 22, attributes := #[] }])
  fields := #[{ name := "serialVersionUID", type := .long, accessFlags := 24, slot := 0, constantValue := 0 }]
  methods := #[k10m0, k10m1]
  instanceTypes := #[(.object "java/lang/Object"), (.object "java/lang/String"), (.object "java/lang/Throwable"), (.array (.object "java/lang/StackTraceElement")), .int, (.object "java/util/List")]
  staticTypes := #[.long]
  resolved := Array.replicate 40 none
  statics := none }

def pool11 : Array CpInfo := pool [(1, .methodref 2 3), (0, .class_ 4), (0, .nameAndType 5 6), (0, u "java/lang/Exception"), (0, u "<init>"), (0, u "(Ljava/lang/String;)V"), (0, .fieldref 8 9), (0, .class_ 10), (0, .nameAndType 11 12), (0, u "com/example/shardwright/shardwright/CommandException"), (0, u "exitCode"), (0, u "I"), (0, .fieldref 8 14), (0, .nameAndType 15 16), (0, u "showsUsage"), (0, u "Z"), (2, .methodref 8 20), (0, .nameAndType 5 21), (0, u "(IZLjava/lang/String;)V"), (0, .class_ 23), (0, u "java/lang/StringBuilder"), (0, .methodref 22 25), (0, .nameAndType 5 26), (0, u "()V"), (0, .methodref 22 28), (0, .nameAndType 29 30), (0, u "append"), (0, u "(Ljava/lang/String;)Ljava/lang/StringBuilder;"), (0, .string 32), (0, u ": the definition says "), (0, .string 34), (0, u ", but "), (0, .methodref 22 36), (0, .nameAndType 37 38), (0, u "toString"), (0, u "()Ljava/lang/String;"), (0, .methodref 8 40), (0, .nameAndType 41 42), (0, u "definition"), (0, u "(Ljava/lang/String;)Lcom/example/shardwright/shardwright/CommandException;"), (0, u "serialVersionUID"), (0, u "J"), (6, u "misfit"), (0, u "(Ljava/lang/String;Ljava/lang/String;Ljava/lang/String;)Lcom/example/shardwright/shardwright/CommandException;"), (2, u "()I"), (0, u "()Z")] 2

def k11c0 : Code := { maxStack := 2, maxLocals := 4, code := prog_1_method_1_code, exceptionTable := #[], attributes := #[] }
def k11m0 : Method := { name := "<init>", desc := "(IZLjava/lang/String;)V", sig := { parameters := [.int, .boolean, (.object "java/lang/String")], returnType := none }, accessFlags := 2, code := some k11c0 }
def k11c1 : Code := { maxStack := 5, maxLocals := 1, code := prog_1_method_3_code, exceptionTable := #[], attributes := #[] }
def k11m1 : Method := { name := "definition", desc := "(Ljava/lang/String;)Lcom/example/shardwright/shardwright/CommandException;", sig := { parameters := [(.object "java/lang/String")], returnType := some (.object "com/example/shardwright/shardwright/CommandException") }, accessFlags := 8, code := some k11c1 }
def k11c2 : Code := { maxStack := 2, maxLocals := 3, code := prog_1_method_4_code, exceptionTable := #[], attributes := #[] }
def k11m2 : Method := { name := "misfit", desc := "(Ljava/lang/String;Ljava/lang/String;Ljava/lang/String;)Lcom/example/shardwright/shardwright/CommandException;", sig := { parameters := [(.object "java/lang/String"), (.object "java/lang/String"), (.object "java/lang/String")], returnType := some (.object "com/example/shardwright/shardwright/CommandException") }, accessFlags := 8, code := some k11c2 }
def k11c3 : Code := { maxStack := 1, maxLocals := 1, code := prog_1_method_7_code, exceptionTable := #[], attributes := #[] }
def k11m3 : Method := { name := "exitCode", desc := "()I", sig := { parameters := [], returnType := some .int }, accessFlags := 0, code := some k11c3 }
def k11c4 : Code := { maxStack := 1, maxLocals := 1, code := prog_1_method_8_code, exceptionTable := #[], attributes := #[] }
def k11m4 : Method := { name := "showsUsage", desc := "()Z", sig := { parameters := [], returnType := some .boolean }, accessFlags := 0, code := some k11c4 }
/-- com/example/shardwright/shardwright/CommandException -/
def k11 : Class := { plain "com/example/shardwright/shardwright/CommandException" (some 10) with
  accessFlags := 48
  interfaces := #[]
  cf := some (fileOf pool11 8 #[] #[{ accessFlags := 2, nameIndex := 5, descriptorIndex := 21, attributes := #[] }, { accessFlags := 8, nameIndex := 41, descriptorIndex := 42, attributes := #[] }, { accessFlags := 8, nameIndex := 51, descriptorIndex := 52, attributes := #[] }, { accessFlags := 0, nameIndex := 11, descriptorIndex := 55, attributes := #[] }, { accessFlags := 0, nameIndex := 15, descriptorIndex := 56, attributes := #[] }] 48 2 #[] #[{ accessFlags := 26, nameIndex := 43, descriptorIndex := 44, attributes := #[] }, { accessFlags := 18, nameIndex := 11, descriptorIndex := 12, attributes := #[] }, { accessFlags := 18, nameIndex := 15, descriptorIndex := 16, attributes := #[] }])
  fields := #[{ name := "serialVersionUID", type := .long, accessFlags := 26, slot := 0, constantValue := 0 }, { name := "exitCode", type := .int, accessFlags := 18, slot := 6, constantValue := 0 }, { name := "showsUsage", type := .boolean, accessFlags := 18, slot := 7, constantValue := 0 }]
  methods := #[k11m0, k11m1, k11m2, k11m3, k11m4]
  instanceTypes := #[(.object "java/lang/Object"), (.object "java/lang/String"), (.object "java/lang/Throwable"), (.array (.object "java/lang/StackTraceElement")), .int, (.object "java/util/List"), .int, .boolean]
  staticTypes := #[.long]
  resolved := Array.replicate 59 none
  statics := none }

def pool12 : Array CpInfo := pool [(1, .class_ 2), (0, u "java/lang/Appendable"), (0, .class_ 4), (0, u "java/lang/Object")] 9

/-- java/lang/Appendable -/
def k12 : Class := { plain "java/lang/Appendable" (some 0) with
  accessFlags := 1537
  interfaces := #[]
  cf := some (fileOf pool12 1 #[] #[] 1537 3 #[] #[])
  fields := #[]
  methods := #[]
  instanceTypes := #[]
  staticTypes := #[]
  resolved := Array.replicate 14 none
  statics := none }

def pool13 : Array CpInfo := pool [(1, .class_ 2), (0, u "java/lang/String"), (0, .methodref 4 5), (0, .class_ 6), (0, .nameAndType 7 8), (0, u "java/lang/Object"), (0, u "<init>"), (0, u "()V"), (1, .class_ 12), (1, u "java/lang/AbstractStringBuilder"), (0, u "EMPTYVALUE"), (0, u "[B"), (0, .fieldref 10 16), (0, .nameAndType 17 14), (0, u "value"), (0, .fieldref 1 19), (0, .nameAndType 20 21), (0, u "COMPACT_STRINGS"), (0, u "Z"), (0, .fieldref 10 23), (0, .nameAndType 24 25), (0, u "coder"), (0, u "B"), (6, .methodref 1 33), (0, .nameAndType 34 35), (0, u "length"), (0, u "()I"), (3, .integer 2147483647), (0, .methodref 1 41), (0, .nameAndType 24 42), (0, u "()B"), (2, u "append"), (0, u "(Ljava/lang/String;)Ljava/lang/AbstractStringBuilder;"), (1, .class_ 49), (0, u "java/lang/CharSequence"), (19, u "(Ljava/lang/String;)V"), (5, u "maybeLatin1"), (3, .fieldref 10 80), (0, .nameAndType 81 82), (0, u "count"), (0, u "I"), (2, u "isLatin1"), (0, u "()Z"), (13, .methodref 10 101), (0, .nameAndType 102 103), (0, u "ensureCapacityInternal"), (0, u "(I)V"), (0, .methodref 10 105), (0, .nameAndType 106 107), (0, u "newCapacity"), (0, u "(I)I"), (0, .methodref 109 110), (0, .class_ 111), (0, .nameAndType 112 113), (0, u "java/util/Arrays"), (0, u "copyOf"), (0, u "([BI)[B"), (0, .methodref 115 116), (0, .class_ 117), (0, .nameAndType 118 119), (0, u "jdk/internal/util/ArraysSupport"), (0, u "newLength"), (0, u "(III)I"), (88, .methodref 10 209), (0, .nameAndType 210 211), (0, u "putStringAt"), (0, u "(ILjava/lang/String;)V"), (5, u "inflateIfNeededFor"), (2, .nameAndType 221 222), (0, u "getBytes"), (0, u "([BIB)V"), (174, .methodref 10 398), (0, .nameAndType 217 69), (0, .methodref 1 220), (3, u "()[B"), (40, .class_ 445), (0, u "java/lang/Appendable"), (106, u "getValue")] 56

def k13m0 : Method := { name := "<init>", desc := "()V", sig := { parameters := [], returnType := none }, accessFlags := 0, code := none }
def k13c1 : Code := { maxStack := 2, maxLocals := 2, code := jdk_68_method_2_code, exceptionTable := #[], attributes := #[] }
def k13m1 : Method := { name := "<init>", desc := "(I)V", sig := { parameters := [.int], returnType := none }, accessFlags := 0, code := some k13c1 }
def k13c2 : Code := { maxStack := 1, maxLocals := 1, code := jdk_68_method_6_code, exceptionTable := #[], attributes := #[] }
def k13m2 : Method := { name := "length", desc := "()I", sig := { parameters := [], returnType := some .int }, accessFlags := 1, code := some k13c2 }
def k13c3 : Code := { maxStack := 4, maxLocals := 3, code := jdk_68_method_9_code, exceptionTable := #[], attributes := #[] }
def k13m3 : Method := { name := "ensureCapacityInternal", desc := "(I)V", sig := { parameters := [.int], returnType := none }, accessFlags := 2, code := some k13c3 }
def k13c4 : Code := { maxStack := 5, maxLocals := 6, code := jdk_68_method_10_code, exceptionTable := #[], attributes := #[] }
def k13m4 : Method := { name := "newCapacity", desc := "(I)I", sig := { parameters := [.int], returnType := some .int }, accessFlags := 2, code := some k13c4 }
def k13c5 : Code := { maxStack := 3, maxLocals := 3, code := jdk_68_method_22_code, exceptionTable := #[], attributes := #[] }
def k13m5 : Method := { name := "append", desc := "(Ljava/lang/String;)Ljava/lang/AbstractStringBuilder;", sig := { parameters := [(.object "java/lang/String")], returnType := some (.object "java/lang/AbstractStringBuilder") }, accessFlags := 1, code := some k13c5 }
def k13c6 : Code := { maxStack := 1, maxLocals := 1, code := jdk_68_method_64_code, exceptionTable := #[], attributes := #[] }
def k13m6 : Method := { name := "getValue", desc := "()[B", sig := { parameters := [], returnType := some (.array .byte) }, accessFlags := 16, code := some k13c6 }
def k13c7 : Code := { maxStack := 1, maxLocals := 1, code := jdk_68_method_68_code, exceptionTable := #[], attributes := #[] }
def k13m7 : Method := { name := "isLatin1", desc := "()Z", sig := { parameters := [], returnType := some .boolean }, accessFlags := 16, code := some k13c7 }
def k13c8 : Code := { maxStack := 2, maxLocals := 2, code := jdk_68_method_71_code, exceptionTable := #[], attributes := #[] }
def k13m8 : Method := { name := "inflateIfNeededFor", desc := "(Ljava/lang/String;)V", sig := { parameters := [(.object "java/lang/String")], returnType := none }, accessFlags := 2, code := some k13c8 }
def k13c9 : Code := { maxStack := 4, maxLocals := 3, code := jdk_68_method_73_code, exceptionTable := #[], attributes := #[] }
def k13m9 : Method := { name := "putStringAt", desc := "(ILjava/lang/String;)V", sig := { parameters := [.int, (.object "java/lang/String")], returnType := none }, accessFlags := 2, code := some k13c9 }
/-- java/lang/AbstractStringBuilder -/
def k13 : Class := { plain "java/lang/AbstractStringBuilder" (some 0) with
  accessFlags := 1056
  interfaces := #[12, 4]
  cf := some (fileOf pool13 10 #[] #[{ accessFlags := 0, nameIndex := 7, descriptorIndex := 8, attributes := #[] }, { accessFlags := 0, nameIndex := 7, descriptorIndex := 103, attributes := #[] }, { accessFlags := 1, nameIndex := 34, descriptorIndex := 35, attributes := #[] }, { accessFlags := 2, nameIndex := 102, descriptorIndex := 103, attributes := #[] }, { accessFlags := 2, nameIndex := 106, descriptorIndex := 107, attributes := #[] }, { accessFlags := 1, nameIndex := 45, descriptorIndex := 46, attributes := #[] }, { accessFlags := 16, nameIndex := 552, descriptorIndex := 403, attributes := #[] }, { accessFlags := 16, nameIndex := 85, descriptorIndex := 86, attributes := #[] }, { accessFlags := 2, nameIndex := 217, descriptorIndex := 69, attributes := #[] }, { accessFlags := 2, nameIndex := 210, descriptorIndex := 211, attributes := #[] }] 1056 4 #[444, 48] #[{ accessFlags := 0, nameIndex := 17, descriptorIndex := 14, attributes := #[] }, { accessFlags := 0, nameIndex := 24, descriptorIndex := 25, attributes := #[] }, { accessFlags := 0, nameIndex := 75, descriptorIndex := 21, attributes := #[] }, { accessFlags := 0, nameIndex := 81, descriptorIndex := 82, attributes := #[] }, { accessFlags := 26, nameIndex := 13, descriptorIndex := 14, attributes := #[] }])
  fields := #[{ name := "value", type := (.array .byte), accessFlags := 0, slot := 0, constantValue := 0 }, { name := "coder", type := .byte, accessFlags := 0, slot := 1, constantValue := 0 }, { name := "maybeLatin1", type := .boolean, accessFlags := 0, slot := 2, constantValue := 0 }, { name := "count", type := .int, accessFlags := 0, slot := 3, constantValue := 0 }, { name := "EMPTYVALUE", type := (.array .byte), accessFlags := 26, slot := 0, constantValue := 0 }]
  methods := #[k13m0, k13m1, k13m2, k13m3, k13m4, k13m5, k13m6, k13m7, k13m8, k13m9]
  instanceTypes := #[(.array .byte), .byte, .boolean, .int]
  staticTypes := #[(.array .byte)]
  resolved := Array.replicate 609 none
  statics := none }

def pool14 : Array CpInfo := pool [(1, .methodref 2 3), (0, .class_ 4), (0, .nameAndType 5 6), (0, u "java/lang/AbstractStringBuilder"), (0, u "<init>"), (0, u "(I)V"), (11, .class_ 20), (1, u "java/lang/String"), (3, .class_ 26), (1, u "java/lang/StringBuilder"), (0, u "append"), (0, u "(Ljava/lang/String;)Ljava/lang/StringBuilder;"), (0, .methodref 2 30), (0, .nameAndType 27 31), (0, u "(Ljava/lang/String;)Ljava/lang/AbstractStringBuilder;"), (105, .methodref 18 138), (0, .nameAndType 5 139), (0, u "(Ljava/lang/StringBuilder;)V"), (5, u "()V"), (10, u "()I"), (186, .methodref 2 344), (0, .nameAndType 345 156), (0, u "length"), (3, .class_ 350), (0, u "java/lang/Appendable"), (0, .class_ 352), (0, u "java/io/Serializable"), (0, .class_ 354), (0, u "java/lang/Comparable"), (0, .class_ 356), (0, u "java/lang/CharSequence"), (0, u "serialVersionUID"), (0, u "J"), (40, u "toString"), (0, u "()Ljava/lang/String;")] 21

def k14c0 : Code := { maxStack := 2, maxLocals := 1, code := jdk_67_method_1_code, exceptionTable := #[], attributes := #[] }
def k14m0 : Method := { name := "<init>", desc := "()V", sig := { parameters := [], returnType := none }, accessFlags := 1, code := some k14c0 }
def k14c1 : Code := { maxStack := 2, maxLocals := 2, code := jdk_67_method_7_code, exceptionTable := #[], attributes := #[] }
def k14m1 : Method := { name := "append", desc := "(Ljava/lang/String;)Ljava/lang/StringBuilder;", sig := { parameters := [(.object "java/lang/String")], returnType := some (.object "java/lang/StringBuilder") }, accessFlags := 1, code := some k14c1 }
def k14c2 : Code := { maxStack := 3, maxLocals := 1, code := jdk_67_method_42_code, exceptionTable := #[], attributes := #[] }
def k14m2 : Method := { name := "toString", desc := "()Ljava/lang/String;", sig := { parameters := [], returnType := some (.object "java/lang/String") }, accessFlags := 1, code := some k14c2 }
def k14c3 : Code := { maxStack := 1, maxLocals := 1, code := jdk_67_method_93_code, exceptionTable := #[], attributes := #[] }
def k14m3 : Method := { name := "length", desc := "()I", sig := { parameters := [], returnType := some .int }, accessFlags := 4161, code := some k14c3 }
/-- java/lang/StringBuilder -/
def k14 : Class := { plain "java/lang/StringBuilder" (some 13) with
  accessFlags := 49
  interfaces := #[12, 2, 3, 4]
  cf := some (fileOf pool14 24 #[] #[{ accessFlags := 1, nameIndex := 5, descriptorIndex := 145, attributes := #[] }, { accessFlags := 1, nameIndex := 27, descriptorIndex := 28, attributes := #[] }, { accessFlags := 1, nameIndex := 399, descriptorIndex := 400, attributes := #[] }, { accessFlags := 4161, nameIndex := 345, descriptorIndex := 156, attributes := #[] }] 49 2 #[349, 351, 353, 355] #[{ accessFlags := 24, nameIndex := 357, descriptorIndex := 358, attributes := #[] }])
  fields := #[{ name := "serialVersionUID", type := .long, accessFlags := 24, slot := 0, constantValue := 0 }]
  methods := #[k14m0, k14m1, k14m2, k14m3]
  instanceTypes := #[(.array .byte), .byte, .boolean, .int]
  staticTypes := #[.long]
  resolved := Array.replicate 422 none
  statics := none }

def pool15 : Array CpInfo := pool [(2, .class_ 4), (1, u "java/lang/Object"), (0, u "<init>"), (0, u "()V"), (1, .class_ 10), (1, u "java/lang/System"), (0, u "allowSecurityManager"), (0, u "I"), (16, u "cons"), (0, u "Ljava/io/Console;"), (77, .class_ 110), (1, u "java/lang/System$CallersHolder"), (43, u "initialErrStream"), (0, u "Ljava/io/PrintStream;"), (19, u "security"), (0, u "Ljava/lang/SecurityManager;"), (31, .class_ 209), (0, u "java/lang/System$1"), (7, u "props"), (0, u "Ljava/util/Properties;"), (2, u "lineSeparator"), (0, u "Ljava/lang/String;"), (96, .class_ 321), (1, u "java/lang/System$LoggerFinder"), (5, .class_ 328), (0, u "java/lang/System$Logger"), (67, u "err"), (2, u "out"), (91, u "notSupportedJnuEncoding"), (15, u "in"), (17, u "initialIn"), (0, u "Ljava/io/InputStream;"), (35, u "bootLayer"), (0, u "Ljava/lang/ModuleLayer;"), (99, .class_ 664), (0, u "java/lang/System$2"), (9, u "NEVER"), (2, u "MAYBE"), (49, u "arraycopy"), (0, u "(Ljava/lang/Object;ILjava/lang/Object;II)V"), (72, .class_ 802), (0, u "java/lang/System$Logger$Level")] 31

def k15m0 : Method := { name := "<init>", desc := "()V", sig := { parameters := [], returnType := none }, accessFlags := 2, code := none }
def k15m1 : Method := { name := "arraycopy", desc := "(Ljava/lang/Object;ILjava/lang/Object;II)V", sig := { parameters := [(.object "java/lang/Object"), .int, (.object "java/lang/Object"), .int, .int], returnType := none }, accessFlags := 265, code := none }
/-- java/lang/System -/
def k15 : Class := { plain "java/lang/System" (some 0) with
  accessFlags := 49
  interfaces := #[]
  cf := some (fileOf pool15 8 #[.nestMembers #[319, 327, 801, 108, 663, 208]] #[{ accessFlags := 2, nameIndex := 5, descriptorIndex := 6, attributes := #[] }, { accessFlags := 265, nameIndex := 727, descriptorIndex := 728, attributes := #[] }] 49 2 #[] #[{ accessFlags := 25, nameIndex := 507, descriptorIndex := 526, attributes := #[] }, { accessFlags := 25, nameIndex := 399, descriptorIndex := 155, attributes := #[] }, { accessFlags := 25, nameIndex := 396, descriptorIndex := 155, attributes := #[] }, { accessFlags := 10, nameIndex := 525, descriptorIndex := 526, attributes := #[] }, { accessFlags := 26, nameIndex := 674, descriptorIndex := 12, attributes := #[] }, { accessFlags := 26, nameIndex := 677, descriptorIndex := 12, attributes := #[] }, { accessFlags := 10, nameIndex := 11, descriptorIndex := 12, attributes := #[] }, { accessFlags := 74, nameIndex := 175, descriptorIndex := 176, attributes := #[] }, { accessFlags := 10, nameIndex := 491, descriptorIndex := 222, attributes := #[] }, { accessFlags := 74, nameIndex := 29, descriptorIndex := 30, attributes := #[] }, { accessFlags := 74, nameIndex := 154, descriptorIndex := 155, attributes := #[] }, { accessFlags := 10, nameIndex := 217, descriptorIndex := 218, attributes := #[] }, { accessFlags := 10, nameIndex := 221, descriptorIndex := 222, attributes := #[] }, { accessFlags := 8, nameIndex := 562, descriptorIndex := 563, attributes := #[] }])
  fields := #[{ name := "in", type := (.object "java/io/InputStream"), accessFlags := 25, slot := 0, constantValue := 0 }, { name := "out", type := (.object "java/io/PrintStream"), accessFlags := 25, slot := 1, constantValue := 0 }, { name := "err", type := (.object "java/io/PrintStream"), accessFlags := 25, slot := 2, constantValue := 0 }, { name := "initialIn", type := (.object "java/io/InputStream"), accessFlags := 10, slot := 3, constantValue := 0 }, { name := "NEVER", type := .int, accessFlags := 26, slot := 4, constantValue := 0 }, { name := "MAYBE", type := .int, accessFlags := 26, slot := 5, constantValue := 0 }, { name := "allowSecurityManager", type := .int, accessFlags := 10, slot := 6, constantValue := 0 }, { name := "security", type := (.object "java/lang/SecurityManager"), accessFlags := 74, slot := 7, constantValue := 0 }, { name := "notSupportedJnuEncoding", type := (.object "java/lang/String"), accessFlags := 10, slot := 8, constantValue := 0 }, { name := "cons", type := (.object "java/io/Console"), accessFlags := 74, slot := 9, constantValue := 0 }, { name := "initialErrStream", type := (.object "java/io/PrintStream"), accessFlags := 74, slot := 10, constantValue := 0 }, { name := "props", type := (.object "java/util/Properties"), accessFlags := 10, slot := 11, constantValue := 0 }, { name := "lineSeparator", type := (.object "java/lang/String"), accessFlags := 10, slot := 12, constantValue := 0 }, { name := "bootLayer", type := (.object "java/lang/ModuleLayer"), accessFlags := 8, slot := 13, constantValue := 0 }]
  methods := #[k15m0, k15m1]
  instanceTypes := #[]
  staticTypes := #[(.object "java/io/InputStream"), (.object "java/io/PrintStream"), (.object "java/io/PrintStream"), (.object "java/io/InputStream"), .int, .int, .int, (.object "java/lang/SecurityManager"), (.object "java/lang/String"), (.object "java/io/Console"), (.object "java/io/PrintStream"), (.object "java/util/Properties"), (.object "java/lang/String"), (.object "java/lang/ModuleLayer")]
  resolved := Array.replicate 834 none
  statics := none }

def pool16 : Array CpInfo := pool [(9, u "<init>"), (6, .class_ 18), (1, u "java/lang/Object"), (0, u "()V"), (1, .class_ 23), (1, u "jdk/internal/util/ArraysSupport"), (0, u "LOG2_ARRAY_LONG_INDEX_SCALE"), (0, u "I"), (2, u "U"), (0, u "Ljdk/internal/misc/Unsafe;"), (8, u "BIG_ENDIAN"), (0, u "Z"), (8, u "LOG2_BYTE_BIT_SIZE"), (4, u "LOG2_ARRAY_INT_INDEX_SCALE"), (54, u "JLA"), (0, u "Ljdk/internal/access/JavaLangAccess;"), (11, u "LOG2_ARRAY_BOOLEAN_INDEX_SCALE"), (9, u "LOG2_ARRAY_BYTE_INDEX_SCALE"), (5, u "LOG2_ARRAY_CHAR_INDEX_SCALE"), (5, u "LOG2_ARRAY_SHORT_INDEX_SCALE"), (18, u "LOG2_ARRAY_FLOAT_INDEX_SCALE"), (24, u "LOG2_ARRAY_DOUBLE_INDEX_SCALE"), (6, .methodref 195 196), (0, .class_ 197), (0, .nameAndType 198 199), (0, u "java/lang/Math"), (0, u "max"), (0, u "(II)I"), (0, .integer 2147483639), (76, u "T_BOOLEAN"), (2, u "T_CHAR"), (1, u "T_FLOAT"), (1, u "T_DOUBLE"), (1, u "T_BYTE"), (1, u "T_SHORT"), (1, u "T_INT"), (1, u "T_LONG"), (1, u "SOFT_MAX_ARRAY_LENGTH"), (56, u "newLength"), (0, u "(III)I")] 25

def k16m0 : Method := { name := "<init>", desc := "()V", sig := { parameters := [], returnType := none }, accessFlags := 2, code := none }
def k16c1 : Code := { maxStack := 3, maxLocals := 4, code := jdk_48_method_27_code, exceptionTable := #[], attributes := #[] }
def k16m1 : Method := { name := "newLength", desc := "(III)I", sig := { parameters := [.int, .int, .int], returnType := some .int }, accessFlags := 9, code := some k16c1 }
/-- jdk/internal/util/ArraysSupport -/
def k16 : Class := { plain "jdk/internal/util/ArraysSupport" (some 0) with
  accessFlags := 33
  interfaces := #[]
  cf := some (fileOf pool16 21 #[] #[{ accessFlags := 2, nameIndex := 9, descriptorIndex := 19, attributes := #[] }, { accessFlags := 9, nameIndex := 351, descriptorIndex := 352, attributes := #[] }] 33 16 #[] #[{ accessFlags := 24, nameIndex := 28, descriptorIndex := 29, attributes := #[] }, { accessFlags := 26, nameIndex := 38, descriptorIndex := 39, attributes := #[] }, { accessFlags := 25, nameIndex := 121, descriptorIndex := 25, attributes := #[] }, { accessFlags := 25, nameIndex := 131, descriptorIndex := 25, attributes := #[] }, { accessFlags := 25, nameIndex := 137, descriptorIndex := 25, attributes := #[] }, { accessFlags := 25, nameIndex := 143, descriptorIndex := 25, attributes := #[] }, { accessFlags := 25, nameIndex := 53, descriptorIndex := 25, attributes := #[] }, { accessFlags := 25, nameIndex := 24, descriptorIndex := 25, attributes := #[] }, { accessFlags := 25, nameIndex := 162, descriptorIndex := 25, attributes := #[] }, { accessFlags := 25, nameIndex := 187, descriptorIndex := 25, attributes := #[] }, { accessFlags := 26, nameIndex := 48, descriptorIndex := 25, attributes := #[] }, { accessFlags := 25, nameIndex := 277, descriptorIndex := 25, attributes := #[] }, { accessFlags := 25, nameIndex := 280, descriptorIndex := 25, attributes := #[] }, { accessFlags := 25, nameIndex := 282, descriptorIndex := 25, attributes := #[] }, { accessFlags := 25, nameIndex := 284, descriptorIndex := 25, attributes := #[] }, { accessFlags := 25, nameIndex := 286, descriptorIndex := 25, attributes := #[] }, { accessFlags := 25, nameIndex := 288, descriptorIndex := 25, attributes := #[] }, { accessFlags := 25, nameIndex := 290, descriptorIndex := 25, attributes := #[] }, { accessFlags := 25, nameIndex := 292, descriptorIndex := 25, attributes := #[] }, { accessFlags := 26, nameIndex := 108, descriptorIndex := 109, attributes := #[] }, { accessFlags := 25, nameIndex := 294, descriptorIndex := 25, attributes := #[] }])
  fields := #[{ name := "U", type := (.object "jdk/internal/misc/Unsafe"), accessFlags := 24, slot := 0, constantValue := 0 }, { name := "BIG_ENDIAN", type := .boolean, accessFlags := 26, slot := 1, constantValue := 0 }, { name := "LOG2_ARRAY_BOOLEAN_INDEX_SCALE", type := .int, accessFlags := 25, slot := 2, constantValue := 0 }, { name := "LOG2_ARRAY_BYTE_INDEX_SCALE", type := .int, accessFlags := 25, slot := 3, constantValue := 0 }, { name := "LOG2_ARRAY_CHAR_INDEX_SCALE", type := .int, accessFlags := 25, slot := 4, constantValue := 0 }, { name := "LOG2_ARRAY_SHORT_INDEX_SCALE", type := .int, accessFlags := 25, slot := 5, constantValue := 0 }, { name := "LOG2_ARRAY_INT_INDEX_SCALE", type := .int, accessFlags := 25, slot := 6, constantValue := 0 }, { name := "LOG2_ARRAY_LONG_INDEX_SCALE", type := .int, accessFlags := 25, slot := 7, constantValue := 0 }, { name := "LOG2_ARRAY_FLOAT_INDEX_SCALE", type := .int, accessFlags := 25, slot := 8, constantValue := 0 }, { name := "LOG2_ARRAY_DOUBLE_INDEX_SCALE", type := .int, accessFlags := 25, slot := 9, constantValue := 0 }, { name := "LOG2_BYTE_BIT_SIZE", type := .int, accessFlags := 26, slot := 10, constantValue := 0 }, { name := "T_BOOLEAN", type := .int, accessFlags := 25, slot := 11, constantValue := 0 }, { name := "T_CHAR", type := .int, accessFlags := 25, slot := 12, constantValue := 0 }, { name := "T_FLOAT", type := .int, accessFlags := 25, slot := 13, constantValue := 0 }, { name := "T_DOUBLE", type := .int, accessFlags := 25, slot := 14, constantValue := 0 }, { name := "T_BYTE", type := .int, accessFlags := 25, slot := 15, constantValue := 0 }, { name := "T_SHORT", type := .int, accessFlags := 25, slot := 16, constantValue := 0 }, { name := "T_INT", type := .int, accessFlags := 25, slot := 17, constantValue := 0 }, { name := "T_LONG", type := .int, accessFlags := 25, slot := 18, constantValue := 0 }, { name := "JLA", type := (.object "jdk/internal/access/JavaLangAccess"), accessFlags := 26, slot := 19, constantValue := 0 }, { name := "SOFT_MAX_ARRAY_LENGTH", type := .int, accessFlags := 25, slot := 20, constantValue := 0 }]
  methods := #[k16m0, k16m1]
  instanceTypes := #[]
  staticTypes := #[(.object "jdk/internal/misc/Unsafe"), .boolean, .int, .int, .int, .int, .int, .int, .int, .int, .int, .int, .int, .int, .int, .int, .int, .int, .int, (.object "jdk/internal/access/JavaLangAccess"), .int]
  resolved := Array.replicate 378 none
  statics := none }

def pool17 : Array CpInfo := pool [(1, .class_ 2), (0, u "java/lang/Math"), (1, .class_ 6), (1, u "java/lang/Object"), (0, u "<init>"), (0, u "()V"), (89, .class_ 100), (1, u "java/lang/Math$RandomNumberGeneratorHolder"), (71, u "negativeZeroFloatBits"), (0, u "J"), (2, u "negativeZeroDoubleBits"), (21, u "max"), (2, u "min"), (43, u "$assertionsDisabled"), (0, u "Z"), (88, u "(II)I"), (2, u "twoToTheDoubleScaleDown"), (0, u "D"), (4, u "twoToTheDoubleScaleUp"), (9, u "E"), (3, u "PI"), (2, u "TAU"), (2, u "DEGREES_TO_RADIANS"), (0, u "RADIANS_TO_DEGREES")] 94

def k17m0 : Method := { name := "<init>", desc := "()V", sig := { parameters := [], returnType := none }, accessFlags := 2, code := none }
def k17c1 : Code := { maxStack := 2, maxLocals := 2, code := jdk_29_method_65_code, exceptionTable := #[], attributes := #[] }
def k17m1 : Method := { name := "max", desc := "(II)I", sig := { parameters := [.int, .int], returnType := some .int }, accessFlags := 9, code := some k17c1 }
def k17c2 : Code := { maxStack := 2, maxLocals := 2, code := jdk_29_method_69_code, exceptionTable := #[], attributes := #[] }
def k17m2 : Method := { name := "min", desc := "(II)I", sig := { parameters := [.int, .int], returnType := some .int }, accessFlags := 9, code := some k17c2 }
/-- java/lang/Math -/
def k17 : Class := { plain "java/lang/Math" (some 0) with
  accessFlags := 49
  interfaces := #[]
  cf := some (fileOf pool17 1 #[.nestMembers #[98]] #[{ accessFlags := 2, nameIndex := 7, descriptorIndex := 8, attributes := #[] }, { accessFlags := 9, nameIndex := 198, descriptorIndex := 335, attributes := #[] }, { accessFlags := 9, nameIndex := 201, descriptorIndex := 335, attributes := #[] }] 49 4 #[] #[{ accessFlags := 25, nameIndex := 354, descriptorIndex := 339, attributes := #[] }, { accessFlags := 25, nameIndex := 358, descriptorIndex := 339, attributes := #[] }, { accessFlags := 25, nameIndex := 361, descriptorIndex := 339, attributes := #[] }, { accessFlags := 26, nameIndex := 364, descriptorIndex := 339, attributes := #[] }, { accessFlags := 26, nameIndex := 365, descriptorIndex := 339, attributes := #[] }, { accessFlags := 26, nameIndex := 172, descriptorIndex := 173, attributes := #[] }, { accessFlags := 26, nameIndex := 176, descriptorIndex := 173, attributes := #[] }, { accessFlags := 8, nameIndex := 344, descriptorIndex := 339, attributes := #[] }, { accessFlags := 8, nameIndex := 338, descriptorIndex := 339, attributes := #[] }, { accessFlags := 4120, nameIndex := 245, descriptorIndex := 246, attributes := #[] }])
  fields := #[{ name := "E", type := .double, accessFlags := 25, slot := 0, constantValue := 0 }, { name := "PI", type := .double, accessFlags := 25, slot := 1, constantValue := 0 }, { name := "TAU", type := .double, accessFlags := 25, slot := 2, constantValue := 0 }, { name := "DEGREES_TO_RADIANS", type := .double, accessFlags := 26, slot := 3, constantValue := 0 }, { name := "RADIANS_TO_DEGREES", type := .double, accessFlags := 26, slot := 4, constantValue := 0 }, { name := "negativeZeroFloatBits", type := .long, accessFlags := 26, slot := 5, constantValue := 0 }, { name := "negativeZeroDoubleBits", type := .long, accessFlags := 26, slot := 6, constantValue := 0 }, { name := "twoToTheDoubleScaleUp", type := .double, accessFlags := 8, slot := 7, constantValue := 0 }, { name := "twoToTheDoubleScaleDown", type := .double, accessFlags := 8, slot := 8, constantValue := 0 }, { name := "$assertionsDisabled", type := .boolean, accessFlags := 4120, slot := 9, constantValue := 0 }]
  methods := #[k17m0, k17m1, k17m2]
  instanceTypes := #[]
  staticTypes := #[.double, .double, .double, .double, .double, .long, .long, .double, .double, .boolean]
  resolved := Array.replicate 460 none
  statics := none }

def pool18 : Array CpInfo := pool [(2, .class_ 4), (1, u "java/lang/Object"), (0, u "<init>"), (0, u "()V"), (7, .class_ 16), (1, u "java/util/Arrays"), (57, .class_ 76), (1, u "java/util/Arrays$NaturalOrder"), (32, u "()Ljava/lang/Object;"), (3, .class_ 115), (1, u "java/util/Arrays$LegacyMergeSort"), (1, u "Z"), (10, .nameAndType 129 109), (0, u "clone"), (9, u "copyOfRange"), (10, .methodref 151 152), (0, .class_ 153), (0, .nameAndType 154 155), (0, u "java/lang/System"), (0, u "arraycopy"), (0, u "(Ljava/lang/Object;ILjava/lang/Object;II)V"), (146, u "copyOf"), (1, .methodref 305 306), (0, .class_ 307), (0, .nameAndType 308 309), (0, u "java/lang/Math"), (0, u "min"), (0, u "(II)I"), (0, .methodref 311 128), (0, .class_ 312), (0, u "[B"), (29, u "([BII)[B"), (32, .class_ 376), (0, u "java/util/Arrays$ArrayList"), (68, u "$assertionsDisabled"), (269, u "MIN_ARRAY_SORT_GRAN"), (0, u "I"), (2, u "INSERTIONSORT_THRESHOLD"), (149, u "([BI)[B"), (105, .class_ 976), (0, u "java/util/Arrays$ArrayItr")] 52

def k18m0 : Method := { name := "<init>", desc := "()V", sig := { parameters := [], returnType := none }, accessFlags := 2, code := none }
def k18c1 : Code := { maxStack := 6, maxLocals := 3, code := jdk_65_method_121_code, exceptionTable := #[], attributes := #[] }
def k18m1 : Method := { name := "copyOf", desc := "([BI)[B", sig := { parameters := [(.array .byte), .int], returnType := some (.array .byte) }, accessFlags := 9, code := some k18c1 }
def k18c2 : Code := { maxStack := 3, maxLocals := 3, code := jdk_65_method_132_code, exceptionTable := #[], attributes := #[] }
def k18m2 : Method := { name := "copyOfRange", desc := "([BII)[B", sig := { parameters := [(.array .byte), .int, .int], returnType := some (.array .byte) }, accessFlags := 9, code := some k18c2 }
/-- java/util/Arrays -/
def k18 : Class := { plain "java/util/Arrays" (some 0) with
  accessFlags := 49
  interfaces := #[]
  cf := some (fileOf pool18 14 #[.nestMembers #[975, 375, 113, 74]] #[{ accessFlags := 2, nameIndex := 5, descriptorIndex := 6, attributes := #[] }, { accessFlags := 9, nameIndex := 302, descriptorIndex := 869, attributes := #[] }, { accessFlags := 9, nameIndex := 139, descriptorIndex := 342, attributes := #[] }] 49 2 #[] #[{ accessFlags := 26, nameIndex := 715, descriptorIndex := 716, attributes := #[] }, { accessFlags := 26, nameIndex := 719, descriptorIndex := 716, attributes := #[] }, { accessFlags := 4120, nameIndex := 445, descriptorIndex := 117, attributes := #[] }])
  fields := #[{ name := "MIN_ARRAY_SORT_GRAN", type := .int, accessFlags := 26, slot := 0, constantValue := 0 }, { name := "INSERTIONSORT_THRESHOLD", type := .int, accessFlags := 26, slot := 1, constantValue := 0 }, { name := "$assertionsDisabled", type := .boolean, accessFlags := 4120, slot := 2, constantValue := 0 }]
  methods := #[k18m0, k18m1, k18m2]
  instanceTypes := #[]
  staticTypes := #[.int, .int, .boolean]
  resolved := Array.replicate 1029 none
  statics := none }

def pool19 : Array CpInfo := pool [(1, .class_ 2), (0, u "java/lang/Cloneable"), (0, .class_ 4), (0, u "java/lang/Object")] 2

/-- java/lang/Cloneable -/
def k19 : Class := { plain "java/lang/Cloneable" (some 0) with
  accessFlags := 1537
  interfaces := #[]
  cf := some (fileOf pool19 1 #[] #[] 1537 3 #[] #[])
  fields := #[]
  methods := #[]
  instanceTypes := #[]
  staticTypes := #[]
  resolved := Array.replicate 7 none
  statics := none }

def pool20 : Array CpInfo := pool [(4, .class_ 6), (1, u "java/lang/Object"), (0, u "<init>"), (0, u "()V"), (5, .class_ 16), (1, u "java/lang/StringLatin1"), (104, u "$assertionsDisabled"), (0, u "Z"), (98, .class_ 223), (1, u "java/lang/StringLatin1$LinesSpliterator"), (57, u "equals"), (0, u "([B[B)Z"), (107, .class_ 391), (0, u "java/lang/StringLatin1$CharsSpliterator")] 3

def k20m0 : Method := { name := "<init>", desc := "()V", sig := { parameters := [], returnType := none }, accessFlags := 0, code := none }
def k20c1 : Code := { maxStack := 3, maxLocals := 3, code := jdk_43_method_13_code, exceptionTable := #[], attributes := #[] }
def k20m1 : Method := { name := "equals", desc := "([B[B)Z", sig := { parameters := [(.array .byte), (.array .byte)], returnType := some .boolean }, accessFlags := 9, code := some k20c1 }
/-- java/lang/StringLatin1 -/
def k20 : Class := { plain "java/lang/StringLatin1" (some 0) with
  accessFlags := 48
  interfaces := #[]
  cf := some (fileOf pool20 14 #[.nestMembers #[390, 221]] #[{ accessFlags := 0, nameIndex := 7, descriptorIndex := 8, attributes := #[] }, { accessFlags := 9, nameIndex := 281, descriptorIndex := 282, attributes := #[] }] 48 4 #[] #[{ accessFlags := 4120, nameIndex := 121, descriptorIndex := 122, attributes := #[] }])
  fields := #[{ name := "$assertionsDisabled", type := .boolean, accessFlags := 4120, slot := 0, constantValue := 0 }]
  methods := #[k20m0, k20m1]
  instanceTypes := #[]
  staticTypes := #[.boolean]
  resolved := Array.replicate 395 none
  statics := none }

def pool21 : Array CpInfo := pool [(2, .class_ 4), (1, u "java/lang/Object"), (0, u "<init>"), (0, u "()V"), (17, .class_ 26), (1, u "jdk/internal/util/Preconditions"), (28, .class_ 56), (0, u "jdk/internal/util/Preconditions$4"), (57, .class_ 115), (0, u "jdk/internal/util/Preconditions$1"), (7, u "SIOOBE_FORMATTER"), (0, u "Ljava/util/function/BiFunction;"), (0, .class_ 126), (0, u "jdk/internal/util/Preconditions$2"), (3, u "AIOOBE_FORMATTER"), (0, .class_ 132), (0, u "jdk/internal/util/Preconditions$3"), (3, u "IOOBE_FORMATTER")] 57

def k21m0 : Method := { name := "<init>", desc := "()V", sig := { parameters := [], returnType := none }, accessFlags := 1, code := none }
/-- jdk/internal/util/Preconditions -/
def k21 : Class := { plain "jdk/internal/util/Preconditions" (some 0) with
  accessFlags := 33
  interfaces := #[]
  cf := some (fileOf pool21 24 #[.nestMembers #[55, 131, 125, 114]] #[{ accessFlags := 1, nameIndex := 5, descriptorIndex := 6, attributes := #[] }] 33 2 #[] #[{ accessFlags := 25, nameIndex := 123, descriptorIndex := 124, attributes := #[] }, { accessFlags := 25, nameIndex := 130, descriptorIndex := 124, attributes := #[] }, { accessFlags := 25, nameIndex := 136, descriptorIndex := 124, attributes := #[] }])
  fields := #[{ name := "SIOOBE_FORMATTER", type := (.object "java/util/function/BiFunction"), accessFlags := 25, slot := 0, constantValue := 0 }, { name := "AIOOBE_FORMATTER", type := (.object "java/util/function/BiFunction"), accessFlags := 25, slot := 1, constantValue := 0 }, { name := "IOOBE_FORMATTER", type := (.object "java/util/function/BiFunction"), accessFlags := 25, slot := 2, constantValue := 0 }]
  methods := #[k21m0]
  instanceTypes := #[]
  staticTypes := #[(.object "java/util/function/BiFunction"), (.object "java/util/function/BiFunction"), (.object "java/util/function/BiFunction")]
  resolved := Array.replicate 194 none
  statics := some 2 }

def pool22 : Array CpInfo := pool [(2, .class_ 4), (1, u "java/lang/Object"), (0, u "<init>"), (0, u "()V"), (12, .class_ 20), (0, u "java/util/Collections"), (63, u "r"), (0, u "Ljava/util/Random;"), (80, .class_ 167), (0, u "java/util/Collections$UnmodifiableCollection"), (6, .class_ 175), (0, u "java/util/Collections$UnmodifiableSequencedCollection"), (6, .class_ 183), (0, u "java/util/Collections$UnmodifiableSet"), (6, .class_ 191), (0, u "java/util/Collections$UnmodifiableSequencedSet"), (6, .class_ 199), (0, u "java/util/Collections$UnmodifiableSortedSet"), (6, .class_ 207), (0, u "java/util/Collections$UnmodifiableNavigableSet"), (4, .class_ 213), (0, u "java/util/Collections$UnmodifiableList"), (1, .class_ 216), (0, u "java/util/Collections$UnmodifiableRandomAccessList"), (6, .class_ 224), (0, u "java/util/Collections$UnmodifiableMap"), (6, .class_ 232), (0, u "java/util/Collections$UnmodifiableSequencedMap"), (4, .class_ 238), (0, u "java/util/Collections$UnmodifiableSortedMap"), (6, .class_ 246), (0, u "java/util/Collections$UnmodifiableNavigableMap"), (3, .class_ 251), (0, u "java/util/Collections$SynchronizedCollection"), (4, .class_ 257), (0, u "java/util/Collections$SynchronizedSet"), (4, .class_ 263), (0, u "java/util/Collections$SynchronizedSortedSet"), (1, .class_ 266), (0, u "java/util/Collections$SynchronizedNavigableSet"), (1, .class_ 269), (0, u "java/util/Collections$SynchronizedRandomAccessList"), (1, .class_ 272), (0, u "java/util/Collections$SynchronizedList"), (5, .class_ 279), (0, u "java/util/Collections$SynchronizedMap"), (1, .class_ 282), (0, u "java/util/Collections$SynchronizedSortedMap"), (1, .class_ 285), (0, u "java/util/Collections$SynchronizedNavigableMap"), (1, .class_ 288), (0, u "java/util/Collections$CheckedCollection"), (11, .class_ 301), (0, u "java/util/Collections$CheckedQueue"), (3, .class_ 306), (0, u "java/util/Collections$CheckedSet"), (3, .class_ 311), (0, u "java/util/Collections$CheckedSortedSet"), (3, .class_ 316), (0, u "java/util/Collections$CheckedNavigableSet"), (3, .class_ 321), (0, u "java/util/Collections$CheckedRandomAccessList"), (3, .class_ 326), (0, u "java/util/Collections$CheckedList"), (1, .class_ 329), (0, u "java/util/Collections$CheckedMap"), (3, .class_ 334), (0, u "java/util/Collections$CheckedSortedMap"), (3, .class_ 339), (0, u "java/util/Collections$CheckedNavigableMap"), (4, .class_ 346), (1, u "java/util/Collections$EmptyIterator"), (3, .class_ 352), (1, u "java/util/Collections$EmptyListIterator"), (2, .class_ 357), (1, u "java/util/Collections$EmptyEnumeration"), (4, u "EMPTY_SET"), (0, u "Ljava/util/Set;"), (6, u "EMPTY_LIST"), (0, u "Ljava/util/List;"), (2, u "EMPTY_MAP"), (0, u "Ljava/util/Map;"), (4, .class_ 381), (0, u "java/util/Collections$SingletonSet"), (2, .class_ 385), (0, u "java/util/Collections$1"), (1, .class_ 388), (0, u "java/util/Collections$2"), (1, .class_ 391), (0, u "java/util/Collections$SingletonList"), (1, .class_ 394), (0, u "java/util/Collections$SingletonMap"), (22, .class_ 418), (0, u "java/util/Collections$CopiesList"), (4, .class_ 425), (1, u "java/util/Collections$ReverseComparator"), (8, .class_ 435), (0, u "java/util/Collections$ReverseComparator2"), (6, .class_ 443), (0, u "java/util/Collections$3"), (25, .class_ 470), (0, u "java/util/Collections$SetFromMap"), (2, .class_ 474), (0, u "java/util/Collections$SequencedSetFromMap"), (3, .class_ 479), (0, u "java/util/Collections$AsLIFOQueue"), (11, .class_ 492), (0, u "java/util/Collections$EmptySet"), (1, .class_ 495), (0, u "java/util/Collections$EmptyList"), (1, .class_ 498), (0, u "java/util/Collections$EmptyMap"), (1, u "BINARYSEARCH_THRESHOLD"), (0, u "I"), (2, u "REVERSE_THRESHOLD"), (1, u "SHUFFLE_THRESHOLD"), (1, u "FILL_THRESHOLD"), (1, u "ROTATE_THRESHOLD"), (1, u "COPY_THRESHOLD"), (1, u "REPLACEALL_THRESHOLD"), (1, u "INDEXOFSUBLIST_THRESHOLD"), (333, .class_ 851), (0, u "java/util/Collections$CheckedMap$CheckedEntrySet"), (0, .class_ 853), (0, u "java/util/Collections$CheckedMap$CheckedEntrySet$CheckedEntry"), (0, .class_ 855), (0, u "java/util/Collections$CheckedMap$CheckedEntrySet$1"), (0, .class_ 857), (0, u "java/util/Collections$CheckedList$1"), (0, .class_ 859), (0, u "java/util/Collections$CheckedCollection$1"), (0, .class_ 861), (0, u "java/util/Collections$UnmodifiableNavigableMap$EmptyNavigableMap"), (0, .class_ 863), (0, u "java/util/Collections$UnmodifiableMap$UnmodifiableEntrySet"), (0, .class_ 865), (0, u "java/util/Collections$UnmodifiableMap$UnmodifiableEntrySet$UnmodifiableEntry"), (0, .class_ 867), (0, u "java/util/Collections$UnmodifiableMap$UnmodifiableEntrySet$UnmodifiableEntrySetSpliterator"), (0, .class_ 869), (0, u "java/util/Collections$UnmodifiableMap$UnmodifiableEntrySet$1"), (0, .class_ 871), (0, u "java/util/Collections$UnmodifiableList$1"), (0, .class_ 873), (0, u "java/util/Collections$UnmodifiableNavigableSet$EmptyNavigableSet"), (0, .class_ 875), (0, u "java/util/Collections$UnmodifiableCollection$1")] 57

def k22m0 : Method := { name := "<init>", desc := "()V", sig := { parameters := [], returnType := none }, accessFlags := 2, code := none }
/-- java/util/Collections -/
def k22 : Class := { plain "java/util/Collections" (some 0) with
  accessFlags := 33
  interfaces := #[]
  cf := some (fileOf pool22 19 #[.nestMembers #[478, 473, 469, 434, 423, 417, 393, 390, 380, 497, 494, 491, 355, 350, 344, 338, 333, 328, 850, 852, 854, 320, 325, 856, 315, 310, 305, 300, 287, 858, 284, 281, 278, 268, 271, 265, 262, 256, 250, 245, 860, 237, 231, 223, 862, 864, 866, 868, 215, 212, 870, 206, 872, 198, 190, 182, 174, 166, 874, 442, 387, 384]] #[{ accessFlags := 2, nameIndex := 5, descriptorIndex := 6, attributes := #[] }] 33 2 #[] #[{ accessFlags := 26, nameIndex := 500, descriptorIndex := 501, attributes := #[] }, { accessFlags := 26, nameIndex := 504, descriptorIndex := 501, attributes := #[] }, { accessFlags := 26, nameIndex := 506, descriptorIndex := 501, attributes := #[] }, { accessFlags := 26, nameIndex := 508, descriptorIndex := 501, attributes := #[] }, { accessFlags := 26, nameIndex := 510, descriptorIndex := 501, attributes := #[] }, { accessFlags := 26, nameIndex := 512, descriptorIndex := 501, attributes := #[] }, { accessFlags := 26, nameIndex := 514, descriptorIndex := 501, attributes := #[] }, { accessFlags := 26, nameIndex := 516, descriptorIndex := 501, attributes := #[] }, { accessFlags := 10, nameIndex := 84, descriptorIndex := 85, attributes := #[] }, { accessFlags := 25, nameIndex := 362, descriptorIndex := 363, attributes := #[] }, { accessFlags := 25, nameIndex := 370, descriptorIndex := 371, attributes := #[] }, { accessFlags := 25, nameIndex := 374, descriptorIndex := 375, attributes := #[] }])
  fields := #[{ name := "BINARYSEARCH_THRESHOLD", type := .int, accessFlags := 26, slot := 0, constantValue := 0 }, { name := "REVERSE_THRESHOLD", type := .int, accessFlags := 26, slot := 1, constantValue := 0 }, { name := "SHUFFLE_THRESHOLD", type := .int, accessFlags := 26, slot := 2, constantValue := 0 }, { name := "FILL_THRESHOLD", type := .int, accessFlags := 26, slot := 3, constantValue := 0 }, { name := "ROTATE_THRESHOLD", type := .int, accessFlags := 26, slot := 4, constantValue := 0 }, { name := "COPY_THRESHOLD", type := .int, accessFlags := 26, slot := 5, constantValue := 0 }, { name := "REPLACEALL_THRESHOLD", type := .int, accessFlags := 26, slot := 6, constantValue := 0 }, { name := "INDEXOFSUBLIST_THRESHOLD", type := .int, accessFlags := 26, slot := 7, constantValue := 0 }, { name := "r", type := (.object "java/util/Random"), accessFlags := 10, slot := 8, constantValue := 0 }, { name := "EMPTY_SET", type := (.object "java/util/Set"), accessFlags := 25, slot := 9, constantValue := 0 }, { name := "EMPTY_LIST", type := (.object "java/util/List"), accessFlags := 25, slot := 10, constantValue := 0 }, { name := "EMPTY_MAP", type := (.object "java/util/Map"), accessFlags := 25, slot := 11, constantValue := 0 }]
  methods := #[k22m0]
  instanceTypes := #[]
  staticTypes := #[.int, .int, .int, .int, .int, .int, .int, .int, (.object "java/util/Random"), (.object "java/util/Set"), (.object "java/util/List"), (.object "java/util/Map")]
  resolved := Array.replicate 933 none
  statics := some 3 }

def pool23 : Array CpInfo := pool [(8, .class_ 10), (1, u "java/lang/Iterable"), (24, .class_ 36), (0, u "java/lang/Object")] 25

/-- java/lang/Iterable -/
def k23 : Class := { plain "java/lang/Iterable" (some 0) with
  accessFlags := 1537
  interfaces := #[]
  cf := some (fileOf pool23 8 #[] #[] 1537 35 #[] #[])
  fields := #[]
  methods := #[]
  instanceTypes := #[]
  staticTypes := #[]
  resolved := Array.replicate 62 none
  statics := none }

def pool24 : Array CpInfo := pool [(10, .class_ 12), (1, u "java/util/Collection"), (47, .class_ 61), (0, u "java/lang/Object"), (0, .class_ 63), (0, u "java/lang/Iterable")] 51

/-- java/util/Collection -/
def k24 : Class := { plain "java/util/Collection" (some 0) with
  accessFlags := 1537
  interfaces := #[23]
  cf := some (fileOf pool24 10 #[] #[] 1537 60 #[62] #[])
  fields := #[]
  methods := #[]
  instanceTypes := #[]
  staticTypes := #[]
  resolved := Array.replicate 115 none
  statics := none }

def pool25 : Array CpInfo := pool [(2, .class_ 4), (1, u "java/lang/Object"), (0, u "<init>"), (0, u "()V"), (1, .class_ 10), (1, u "java/util/AbstractCollection"), (66, .class_ 78), (0, u "java/util/Collection")] 81

def k25m0 : Method := { name := "<init>", desc := "()V", sig := { parameters := [], returnType := none }, accessFlags := 4, code := none }
/-- java/util/AbstractCollection -/
def k25 : Class := { plain "java/util/AbstractCollection" (some 0) with
  accessFlags := 1057
  interfaces := #[24]
  cf := some (fileOf pool25 8 #[] #[{ accessFlags := 4, nameIndex := 5, descriptorIndex := 6, attributes := #[] }] 1057 2 #[77] #[])
  fields := #[]
  methods := #[k25m0]
  instanceTypes := #[]
  staticTypes := #[]
  resolved := Array.replicate 160 none
  statics := none }

def pool26 : Array CpInfo := pool [(8, .class_ 10), (1, u "java/util/SequencedCollection"), (15, .class_ 27), (0, u "java/lang/Object"), (0, .class_ 29), (0, u "java/util/Collection")] 27

/-- java/util/SequencedCollection -/
def k26 : Class := { plain "java/util/SequencedCollection" (some 0) with
  accessFlags := 1537
  interfaces := #[24]
  cf := some (fileOf pool26 8 #[] #[] 1537 26 #[28] #[])
  fields := #[]
  methods := #[]
  instanceTypes := #[]
  staticTypes := #[]
  resolved := Array.replicate 57 none
  statics := none }

def pool27 : Array CpInfo := pool [(8, .class_ 10), (1, u "java/util/List"), (92, .class_ 104), (0, u "java/lang/Object"), (15, .class_ 121), (0, u "java/util/SequencedCollection")] 129

/-- java/util/List -/
def k27 : Class := { plain "java/util/List" (some 0) with
  accessFlags := 1537
  interfaces := #[26]
  cf := some (fileOf pool27 8 #[] #[] 1537 103 #[120] #[])
  fields := #[]
  methods := #[]
  instanceTypes := #[]
  staticTypes := #[]
  resolved := Array.replicate 251 none
  statics := none }

def pool28 : Array CpInfo := pool [(2, .class_ 4), (1, u "java/util/AbstractCollection"), (0, u "<init>"), (0, u "()V"), (1, .class_ 10), (1, u "java/util/AbstractList"), (0, u "modCount"), (0, u "I"), (64, .class_ 78), (0, u "java/util/AbstractList$Itr"), (3, .class_ 83), (0, u "java/util/AbstractList$ListItr"), (9, .class_ 94), (0, u "java/util/AbstractList$RandomAccessSubList"), (3, .class_ 99), (0, u "java/util/AbstractList$SubList"), (33, .class_ 134), (0, u "java/util/List"), (73, .class_ 209), (0, u "java/util/AbstractList$SubList$1"), (0, .class_ 211), (0, u "java/util/AbstractList$RandomAccessSpliterator")] 6

def k28m0 : Method := { name := "<init>", desc := "()V", sig := { parameters := [], returnType := none }, accessFlags := 4, code := none }
/-- java/util/AbstractList -/
def k28 : Class := { plain "java/util/AbstractList" (some 25) with
  accessFlags := 1057
  interfaces := #[27]
  cf := some (fileOf pool28 8 #[.nestMembers #[93, 98, 208, 210, 82, 77]] #[{ accessFlags := 4, nameIndex := 5, descriptorIndex := 6, attributes := #[] }] 1057 2 #[133] #[{ accessFlags := 132, nameIndex := 11, descriptorIndex := 12, attributes := #[] }])
  fields := #[{ name := "modCount", type := .int, accessFlags := 132, slot := 0, constantValue := 0 }]
  methods := #[k28m0]
  instanceTypes := #[.int]
  staticTypes := #[]
  resolved := Array.replicate 218 none
  statics := none }

def pool29 : Array CpInfo := pool [(1, .class_ 2), (0, u "java/util/RandomAccess"), (0, .class_ 4), (0, u "java/lang/Object")] 2

/-- java/util/RandomAccess -/
def k29 : Class := { plain "java/util/RandomAccess" (some 0) with
  accessFlags := 1537
  interfaces := #[]
  cf := some (fileOf pool29 1 #[] #[] 1537 3 #[] #[])
  fields := #[]
  methods := #[]
  instanceTypes := #[]
  staticTypes := #[]
  resolved := Array.replicate 7 none
  statics := none }

def pool30 : Array CpInfo := pool [(2, .class_ 4), (1, u "java/util/AbstractList"), (0, u "<init>"), (0, u "()V"), (1, .class_ 10), (1, u "java/util/Collections"), (54, .class_ 66), (0, u "java/util/Collections$EmptyList"), (0, .class_ 68), (0, u "java/util/RandomAccess"), (0, .class_ 70), (0, u "java/io/Serializable"), (0, u "serialVersionUID"), (0, u "J")] 77

def k30m0 : Method := { name := "<init>", desc := "()V", sig := { parameters := [], returnType := none }, accessFlags := 2, code := none }
/-- java/util/Collections$EmptyList -/
def k30 : Class := { plain "java/util/Collections$EmptyList" (some 28) with
  accessFlags := 32
  interfaces := #[29, 2]
  cf := some (fileOf pool30 65 #[.nestHost 8] #[{ accessFlags := 2, nameIndex := 5, descriptorIndex := 6, attributes := #[] }] 32 2 #[67, 69] #[{ accessFlags := 26, nameIndex := 71, descriptorIndex := 72, attributes := #[] }])
  fields := #[{ name := "serialVersionUID", type := .long, accessFlags := 26, slot := 0, constantValue := 0 }]
  methods := #[k30m0]
  instanceTypes := #[.int]
  staticTypes := #[.long]
  resolved := Array.replicate 150 none
  statics := none }

def pool31 : Array CpInfo := pool [(2, .class_ 4), (1, u "java/lang/StackTraceElement"), (0, u "<init>"), (2, .class_ 10), (1, u "java/lang/Object"), (0, u "()V"), (2, u "format"), (0, u "B"), (2, u "classLoaderName"), (0, u "Ljava/lang/String;"), (2, u "moduleName"), (2, u "moduleVersion"), (12, u "declaringClass"), (4, u "methodName"), (2, u "fileName"), (2, u "lineNumber"), (0, u "I"), (65, u "declaringClassObject"), (0, u "Ljava/lang/Class;"), (33, .class_ 153), (1, u "java/lang/StackTraceElement$HashedModules"), (17, .class_ 172), (0, u "java/io/Serializable"), (0, u "NATIVE_METHOD"), (1, u "UNKNOWN_SOURCE"), (2, u "BUILTIN_CLASS_LOADER"), (1, u "JDK_NON_UPGRADEABLE_MODULE"), (1, u "serialVersionUID"), (0, u "J")] 51

def k31m0 : Method := { name := "<init>", desc := "()V", sig := { parameters := [], returnType := none }, accessFlags := 2, code := none }
/-- java/lang/StackTraceElement -/
def k31 : Class := { plain "java/lang/StackTraceElement" (some 0) with
  accessFlags := 49
  interfaces := #[2]
  cf := some (fileOf pool31 2 #[.nestMembers #[151]] #[{ accessFlags := 2, nameIndex := 5, descriptorIndex := 11, attributes := #[] }] 49 8 #[171] #[{ accessFlags := 26, nameIndex := 173, descriptorIndex := 19, attributes := #[] }, { accessFlags := 26, nameIndex := 175, descriptorIndex := 19, attributes := #[] }, { accessFlags := 130, nameIndex := 116, descriptorIndex := 117, attributes := #[] }, { accessFlags := 2, nameIndex := 18, descriptorIndex := 19, attributes := #[] }, { accessFlags := 2, nameIndex := 22, descriptorIndex := 19, attributes := #[] }, { accessFlags := 2, nameIndex := 25, descriptorIndex := 19, attributes := #[] }, { accessFlags := 2, nameIndex := 38, descriptorIndex := 19, attributes := #[] }, { accessFlags := 2, nameIndex := 43, descriptorIndex := 19, attributes := #[] }, { accessFlags := 2, nameIndex := 46, descriptorIndex := 19, attributes := #[] }, { accessFlags := 2, nameIndex := 49, descriptorIndex := 50, attributes := #[] }, { accessFlags := 2, nameIndex := 14, descriptorIndex := 15, attributes := #[] }, { accessFlags := 26, nameIndex := 178, descriptorIndex := 15, attributes := #[] }, { accessFlags := 26, nameIndex := 180, descriptorIndex := 15, attributes := #[] }, { accessFlags := 26, nameIndex := 182, descriptorIndex := 183, attributes := #[] }])
  fields := #[{ name := "NATIVE_METHOD", type := (.object "java/lang/String"), accessFlags := 26, slot := 0, constantValue := 0 }, { name := "UNKNOWN_SOURCE", type := (.object "java/lang/String"), accessFlags := 26, slot := 1, constantValue := 0 }, { name := "declaringClassObject", type := (.object "java/lang/Class"), accessFlags := 130, slot := 0, constantValue := 0 }, { name := "classLoaderName", type := (.object "java/lang/String"), accessFlags := 2, slot := 1, constantValue := 0 }, { name := "moduleName", type := (.object "java/lang/String"), accessFlags := 2, slot := 2, constantValue := 0 }, { name := "moduleVersion", type := (.object "java/lang/String"), accessFlags := 2, slot := 3, constantValue := 0 }, { name := "declaringClass", type := (.object "java/lang/String"), accessFlags := 2, slot := 4, constantValue := 0 }, { name := "methodName", type := (.object "java/lang/String"), accessFlags := 2, slot := 5, constantValue := 0 }, { name := "fileName", type := (.object "java/lang/String"), accessFlags := 2, slot := 6, constantValue := 0 }, { name := "lineNumber", type := .int, accessFlags := 2, slot := 7, constantValue := 0 }, { name := "format", type := .byte, accessFlags := 2, slot := 8, constantValue := 0 }, { name := "BUILTIN_CLASS_LOADER", type := .byte, accessFlags := 26, slot := 2, constantValue := 0 }, { name := "JDK_NON_UPGRADEABLE_MODULE", type := .byte, accessFlags := 26, slot := 3, constantValue := 0 }, { name := "serialVersionUID", type := .long, accessFlags := 26, slot := 4, constantValue := 0 }]
  methods := #[k31m0]
  instanceTypes := #[(.object "java/lang/Class"), (.object "java/lang/String"), (.object "java/lang/String"), (.object "java/lang/String"), (.object "java/lang/String"), (.object "java/lang/String"), (.object "java/lang/String"), .int, .byte]
  staticTypes := #[(.object "java/lang/String"), (.object "java/lang/String"), .byte, .byte, .long]
  resolved := Array.replicate 235 none
  statics := none }

/-- the primitive byte -/
def k32 : Class := { plain "byte" none with kind := .primitive 'B', accessFlags := 0x411 }
/-- [B -/
def k33 : Class := { plain "[B" (some 0) with kind := .array 32 .byte, interfaces := #[19, 2], accessFlags := 1041 }

/-- the primitive char -/
def k34 : Class := { plain "char" none with kind := .primitive 'C', accessFlags := 0x411 }
/-- [C -/
def k35 : Class := { plain "[C" (some 0) with kind := .array 34 .char, interfaces := #[19, 2], accessFlags := 1041 }

/-- the primitive int -/
def k36 : Class := { plain "int" none with kind := .primitive 'I', accessFlags := 0x411 }
/-- [I -/
def k37 : Class := { plain "[I" (some 0) with kind := .array 36 .int, interfaces := #[19, 2], accessFlags := 1041 }

/-- [Ljava/lang/Object; -/
def k38 : Class := { plain "[Ljava/lang/Object;" (some 0) with kind := .array 0 (.object "java/lang/Object"), interfaces := #[19, 2], accessFlags := 1041 }

/-- [Ljava/lang/StackTraceElement; -/
def k39 : Class := { plain "[Ljava/lang/StackTraceElement;" (some 0) with kind := .array 31 (.object "java/lang/StackTraceElement"), interfaces := #[19, 2], accessFlags := 1041 }

/-- [Ljava/lang/Throwable; -/
def k40 : Class := { plain "[Ljava/lang/Throwable;" (some 0) with kind := .array 9 (.object "java/lang/Throwable"), interfaces := #[19, 2], accessFlags := 1041 }

def heap : Heap := #[{ cls := 7, slots := #[.long 0, .int 1, .null, .int 0, .null, .int 0, .int 0], vm := .statics 7 },
  { cls := 9, slots := #[.long 0, .ref 4, .ref 5, .null, .null, .null, .null, .ref 6, .int 1], vm := .statics 9 },
  { cls := 21, slots := #[.null, .null, .null], vm := .statics 21 },
  { cls := 22, slots := #[.int 0, .int 0, .int 0, .int 0, .int 0, .int 0, .int 0, .int 0, .null, .null, .ref 5, .null], vm := .statics 22 },
  { cls := 39, slots := #[], vm := .none },
  { cls := 30, slots := #[.int 0], vm := .none },
  { cls := 40, slots := #[], vm := .none }]
def classes : Array Class := #[k0, k1, k2, k3, k4, k5, k6, k7, k8, k9, k10, k11, k12, k13, k14, k15, k16, k17, k18, k19, k20, k21, k22, k23, k24, k25, k26, k27, k28, k29, k30, k31, k32, k33, k34, k35, k36, k37, k38, k39, k40]
def interned : List (Array UInt16 × Addr) := []
def slotsUsed : Nat := 32
def theMethod : MethodId := ⟨1, 3⟩
def args0 : Array Value := #[.int 5, .int 5, .int 5]
def aboutOver (below : List Frame) : State where
  vm := { classes := classes, interned := interned.toArray }
  heap := heap
  slotsUsed := slotsUsed
  threads := #[{ frames := .invoking theMethod args0 :: below }]
def below0 : List Frame := [.native { method := ⟨0, 0⟩, args := #[] }]
def about1 : State := aboutOver below0
def p0 : Program := .bare "" "" ""
def e0 : Env := launch0.env 0 0 0
theorem w_frames : about1.frames = Frame.invoking theMethod args0 :: below0 := rfl
set_option maxRecDepth 65536 in
theorem w_args : argsFit about1.vm theMethod args0 = true := by decide +kernel
set_option maxRecDepth 65536 in
theorem w_heap : heapFits about1 = true := by decide +kernel
set_option maxRecDepth 65536 in
theorem w_runnable : about1.curStatus? = some .runnable := by decide +kernel
set_option maxRecDepth 65536 in
theorem w_alone : about1.alone = true := by decide +kernel
set_option maxRecDepth 65536 in
theorem w_named : about1.methodNamed? x = some theMethod := by decide +kernel
set_option maxRecDepth 65536 in
theorem w_hears : about1.hears theMethod below0 = true := by decide +kernel
set_option maxRecDepth 65536 in
theorem w_ripe : about1.ripe theMethod args0 below0 = true := by decide +kernel
theorem w_running : about1.status = .running := rfl
set_option maxRecDepth 65536 in
theorem w_room : about1.hasRoom e0.platform room_1 = true :=
  launch0.hasRoom_least _ room_1 (by decide +kernel) (by decide +kernel) (by decide +kernel) (by decide +kernel) (by decide +kernel) (by decide +kernel)
theorem allAtoms_all (ts : List Jvm.Cond) (a : Array Jvm.Value) (st : Jvm.State) : (allAtoms ts).before a st = ts.all (fun c => c.before a st) := by
  induction ts with
  | nil => rfl
  | cons c t ih =>
    show (Jvm.Cond.and c (allAtoms t)).before a st = _
    rw [Jvm.Cond.before_and, ih, List.all_cons]
def words1 : List Jvm.Cond := Jvm.Cond.code x code maxLocals ret :: tables_1
/-- a 'code' word, met by the world's own term for the bytes: nothing is compared byte by byte -/
theorem code_word {y : MethodName} {bytes : ByteArray} {mx : Nat} {rt : Option FieldType} {a : Array Value} {s : State} {m : MethodId} {meth : Method} {c : Code} (h1 : s.methodNamed? y = some m) (h2 : s.vm.method? m = some meth) (h3 : meth.code = some c) (h4 : c.code = bytes)
    (h5 : (c.maxLocals == mx && c.exceptionTable.isEmpty && decide (c.maxStack ≤ mostOperands) && decide (meth.sig.returnType = rt) && !meth.locks && decide (parseMethodDescriptor y.desc = some meth.sig)) = true) : (Jvm.Cond.code y bytes mx rt).before a s = true := by
  simp only [Bool.and_eq_true, beq_iff_eq, Bool.not_eq_true', decide_eq_true_eq] at h5
  obtain ⟨⟨⟨⟨⟨g1, g2⟩, g3⟩, g4⟩, g5⟩, g6⟩ := h5
  simp [Cond.before, Cond.holds, Cond.value, h1, h2, h3, h4, g1, g2, g3, g4, g5, g6]
def isCode : Jvm.Cond → Bool
  | .code _ _ _ _ => true
  | _ => false
theorem all_split {L : List Jvm.Cond} {P : Jvm.Cond → Bool} (h1 : L.all (fun c => isCode c || P c) = true) (h2 : ∀ c ∈ L.filter isCode, P c = true) : L.all P = true := by
  refine List.all_eq_true.mpr fun c hc => ?_
  have h := List.all_eq_true.mp h1 c hc
  rcases Bool.eq_false_or_eq_true (isCode c) with hi | hi
  · exact h2 c (List.mem_filter.mpr ⟨hc, hi⟩)
  · simpa [hi] using h
set_option maxRecDepth 65536 in
theorem w_c0 : (Jvm.Cond.code x code maxLocals ret).before args0 about1 = true := code_word (m := ⟨1, 3⟩) (meth := k1m3) (c := k1c3) (by decide +kernel) rfl rfl rfl (by decide +kernel)
set_option maxRecDepth 65536 in
theorem w_c1 : (Jvm.Cond.code ({ cls := "com/example/shardwright/shardwright/CommandExceptionMisfitPinLaw", name := "lo", desc := "(I)C" } : Jvm.MethodName) method_2_code (1 : Nat) (Option.some Jvm.ClassFile.FieldType.char)).before args0 about1 = true := code_word (m := ⟨1, 1⟩) (meth := k1m1) (c := k1c1) (by decide +kernel) rfl rfl rfl (by decide +kernel)
set_option maxRecDepth 65536 in
theorem w_c2 : (Jvm.Cond.code ({ cls := "com/example/shardwright/shardwright/CommandExceptionMisfitPinLaw", name := "hi", desc := "(I)C" } : Jvm.MethodName) method_3_code (1 : Nat) (Option.some Jvm.ClassFile.FieldType.char)).before args0 about1 = true := code_word (m := ⟨1, 2⟩) (meth := k1m2) (c := k1c2) (by decide +kernel) rfl rfl rfl (by decide +kernel)
set_option maxRecDepth 65536 in
theorem w_c3 : (Jvm.Cond.code ({ cls := "java/lang/String", name := "<init>", desc := "([C)V" } : Jvm.MethodName) jdk_42_method_3_code (2 : Nat) (Option.none : Option Jvm.ClassFile.FieldType)).before args0 about1 = true := code_word (m := ⟨7, 1⟩) (meth := k7m1) (c := k7c1) (by decide +kernel) rfl rfl rfl (by decide +kernel)
set_option maxRecDepth 65536 in
theorem w_c4 : (Jvm.Cond.code ({ cls := "java/lang/String", name := "<init>", desc := "([CIILjava/lang/Void;)V" } : Jvm.MethodName) jdk_42_method_149_code (6 : Nat) (Option.none : Option Jvm.ClassFile.FieldType)).before args0 about1 = true := code_word (m := ⟨7, 6⟩) (meth := k7m6) (c := k7c6) (by decide +kernel) rfl rfl rfl (by decide +kernel)
set_option maxRecDepth 65536 in
theorem w_c5 : (Jvm.Cond.code ({ cls := "java/lang/Object", name := "<init>", desc := "()V" } : Jvm.MethodName) object_method_1_code (1 : Nat) (Option.none : Option Jvm.ClassFile.FieldType)).before args0 about1 = true := code_word (m := ⟨0, 0⟩) (meth := k0m0) (c := k0c0) (by decide +kernel) rfl rfl rfl (by decide +kernel)
set_option maxRecDepth 65536 in
theorem w_c6 : (Jvm.Cond.code ({ cls := "java/lang/StringUTF16", name := "compress", desc := "([CII)[B" } : Jvm.MethodName) jdk_52_method_16_code (6 : Nat) (Option.some (Jvm.ClassFile.FieldType.array Jvm.ClassFile.FieldType.byte))).before args0 about1 = true := code_word (m := ⟨8, 2⟩) (meth := k8m2) (c := k8c2) (by decide +kernel) rfl rfl rfl (by decide +kernel)
set_option maxRecDepth 65536 in
theorem w_c7 : (Jvm.Cond.code ({ cls := "java/lang/StringUTF16", name := "compress", desc := "([CI[BII)I" } : Jvm.MethodName) jdk_52_method_21_code (7 : Nat) (Option.some Jvm.ClassFile.FieldType.int)).before args0 about1 = true := code_word (m := ⟨8, 3⟩) (meth := k8m3) (c := k8c3) (by decide +kernel) rfl rfl rfl (by decide +kernel)
set_option maxRecDepth 65536 in
theorem w_c8 : (Jvm.Cond.code ({ cls := "java/lang/StringUTF16", name := "coderFromArrayLen", desc := "([BI)B" } : Jvm.MethodName) jdk_52_method_15_code (2 : Nat) (Option.some Jvm.ClassFile.FieldType.byte)).before args0 about1 = true := code_word (m := ⟨8, 1⟩) (meth := k8m1) (c := k8c1) (by decide +kernel) rfl rfl rfl (by decide +kernel)
set_option maxRecDepth 65536 in
theorem w_c9 : (Jvm.Cond.code ({ cls := "com/example/shardwright/shardwright/CommandException", name := "misfit", desc := "(Ljava/lang/String;Ljava/lang/String;Ljava/lang/String;)Lcom/example/shardwright/shardwright/CommandException;" } : Jvm.MethodName) prog_1_method_4_code (3 : Nat) (Option.some (Jvm.ClassFile.FieldType.object "com/example/shardwright/shardwright/CommandException"))).before args0 about1 = true := code_word (m := ⟨11, 2⟩) (meth := k11m2) (c := k11c2) (by decide +kernel) rfl rfl rfl (by decide +kernel)
set_option maxRecDepth 65536 in
theorem w_c10 : (Jvm.Cond.code ({ cls := "java/lang/StringBuilder", name := "<init>", desc := "()V" } : Jvm.MethodName) jdk_67_method_1_code (1 : Nat) (Option.none : Option Jvm.ClassFile.FieldType)).before args0 about1 = true := code_word (m := ⟨14, 0⟩) (meth := k14m0) (c := k14c0) (by decide +kernel) rfl rfl rfl (by decide +kernel)
set_option maxRecDepth 65536 in
theorem w_c11 : (Jvm.Cond.code ({ cls := "java/lang/AbstractStringBuilder", name := "<init>", desc := "(I)V" } : Jvm.MethodName) jdk_68_method_2_code (2 : Nat) (Option.none : Option Jvm.ClassFile.FieldType)).before args0 about1 = true := code_word (m := ⟨13, 1⟩) (meth := k13m1) (c := k13c1) (by decide +kernel) rfl rfl rfl (by decide +kernel)
set_option maxRecDepth 65536 in
theorem w_c12 : (Jvm.Cond.code ({ cls := "java/lang/StringBuilder", name := "append", desc := "(Ljava/lang/String;)Ljava/lang/StringBuilder;" } : Jvm.MethodName) jdk_67_method_7_code (2 : Nat) (Option.some (Jvm.ClassFile.FieldType.object "java/lang/StringBuilder"))).before args0 about1 = true := code_word (m := ⟨14, 1⟩) (meth := k14m1) (c := k14c1) (by decide +kernel) rfl rfl rfl (by decide +kernel)
set_option maxRecDepth 65536 in
theorem w_c13 : (Jvm.Cond.code ({ cls := "java/lang/AbstractStringBuilder", name := "append", desc := "(Ljava/lang/String;)Ljava/lang/AbstractStringBuilder;" } : Jvm.MethodName) jdk_68_method_22_code (3 : Nat) (Option.some (Jvm.ClassFile.FieldType.object "java/lang/AbstractStringBuilder"))).before args0 about1 = true := code_word (m := ⟨13, 5⟩) (meth := k13m5) (c := k13c5) (by decide +kernel) rfl rfl rfl (by decide +kernel)
set_option maxRecDepth 65536 in
theorem w_c14 : (Jvm.Cond.code ({ cls := "java/lang/String", name := "length", desc := "()I" } : Jvm.MethodName) jdk_42_method_54_code (1 : Nat) (Option.some Jvm.ClassFile.FieldType.int)).before args0 about1 = true := code_word (m := ⟨7, 3⟩) (meth := k7m3) (c := k7c3) (by decide +kernel) rfl rfl rfl (by decide +kernel)
set_option maxRecDepth 65536 in
theorem w_c15 : (Jvm.Cond.code ({ cls := "java/lang/String", name := "coder", desc := "()B" } : Jvm.MethodName) jdk_42_method_152_code (1 : Nat) (Option.some Jvm.ClassFile.FieldType.byte)).before args0 about1 = true := code_word (m := ⟨7, 8⟩) (meth := k7m8) (c := k7c8) (by decide +kernel) rfl rfl rfl (by decide +kernel)
set_option maxRecDepth 65536 in
theorem w_c16 : (Jvm.Cond.code ({ cls := "java/lang/AbstractStringBuilder", name := "ensureCapacityInternal", desc := "(I)V" } : Jvm.MethodName) jdk_68_method_9_code (3 : Nat) (Option.none : Option Jvm.ClassFile.FieldType)).before args0 about1 = true := code_word (m := ⟨13, 3⟩) (meth := k13m3) (c := k13c3) (by decide +kernel) rfl rfl rfl (by decide +kernel)
set_option maxRecDepth 65536 in
theorem w_c17 : (Jvm.Cond.code ({ cls := "java/lang/AbstractStringBuilder", name := "putStringAt", desc := "(ILjava/lang/String;)V" } : Jvm.MethodName) jdk_68_method_73_code (3 : Nat) (Option.none : Option Jvm.ClassFile.FieldType)).before args0 about1 = true := code_word (m := ⟨13, 9⟩) (meth := k13m9) (c := k13c9) (by decide +kernel) rfl rfl rfl (by decide +kernel)
set_option maxRecDepth 65536 in
theorem w_c18 : (Jvm.Cond.code ({ cls := "java/lang/AbstractStringBuilder", name := "inflateIfNeededFor", desc := "(Ljava/lang/String;)V" } : Jvm.MethodName) jdk_68_method_71_code (2 : Nat) (Option.none : Option Jvm.ClassFile.FieldType)).before args0 about1 = true := code_word (m := ⟨13, 8⟩) (meth := k13m8) (c := k13c8) (by decide +kernel) rfl rfl rfl (by decide +kernel)
set_option maxRecDepth 65536 in
theorem w_c19 : (Jvm.Cond.code ({ cls := "java/lang/String", name := "getBytes", desc := "([BIB)V" } : Jvm.MethodName) jdk_42_method_147_code (4 : Nat) (Option.none : Option Jvm.ClassFile.FieldType)).before args0 about1 = true := code_word (m := ⟨7, 5⟩) (meth := k7m5) (c := k7c5) (by decide +kernel) rfl rfl rfl (by decide +kernel)
set_option maxRecDepth 65536 in
theorem w_c20 : (Jvm.Cond.code ({ cls := "java/lang/AbstractStringBuilder", name := "newCapacity", desc := "(I)I" } : Jvm.MethodName) jdk_68_method_10_code (6 : Nat) (Option.some Jvm.ClassFile.FieldType.int)).before args0 about1 = true := code_word (m := ⟨13, 4⟩) (meth := k13m4) (c := k13c4) (by decide +kernel) rfl rfl rfl (by decide +kernel)
set_option maxRecDepth 65536 in
theorem w_c21 : (Jvm.Cond.code ({ cls := "jdk/internal/util/ArraysSupport", name := "newLength", desc := "(III)I" } : Jvm.MethodName) jdk_48_method_27_code (4 : Nat) (Option.some Jvm.ClassFile.FieldType.int)).before args0 about1 = true := code_word (m := ⟨16, 1⟩) (meth := k16m1) (c := k16c1) (by decide +kernel) rfl rfl rfl (by decide +kernel)
set_option maxRecDepth 65536 in
theorem w_c22 : (Jvm.Cond.code ({ cls := "java/lang/Math", name := "max", desc := "(II)I" } : Jvm.MethodName) jdk_29_method_65_code (2 : Nat) (Option.some Jvm.ClassFile.FieldType.int)).before args0 about1 = true := code_word (m := ⟨17, 1⟩) (meth := k17m1) (c := k17c1) (by decide +kernel) rfl rfl rfl (by decide +kernel)
set_option maxRecDepth 65536 in
theorem w_c23 : (Jvm.Cond.code ({ cls := "java/util/Arrays", name := "copyOf", desc := "([BI)[B" } : Jvm.MethodName) jdk_65_method_121_code (3 : Nat) (Option.some (Jvm.ClassFile.FieldType.array Jvm.ClassFile.FieldType.byte))).before args0 about1 = true := code_word (m := ⟨18, 1⟩) (meth := k18m1) (c := k18c1) (by decide +kernel) rfl rfl rfl (by decide +kernel)
set_option maxRecDepth 65536 in
theorem w_c24 : (Jvm.Cond.code ({ cls := "java/lang/Math", name := "min", desc := "(II)I" } : Jvm.MethodName) jdk_29_method_69_code (2 : Nat) (Option.some Jvm.ClassFile.FieldType.int)).before args0 about1 = true := code_word (m := ⟨17, 2⟩) (meth := k17m2) (c := k17c2) (by decide +kernel) rfl rfl rfl (by decide +kernel)
set_option maxRecDepth 65536 in
theorem w_c25 : (Jvm.Cond.code ({ cls := "java/lang/StringBuilder", name := "toString", desc := "()Ljava/lang/String;" } : Jvm.MethodName) jdk_67_method_42_code (1 : Nat) (Option.some (Jvm.ClassFile.FieldType.object "java/lang/String"))).before args0 about1 = true := code_word (m := ⟨14, 2⟩) (meth := k14m2) (c := k14c2) (by decide +kernel) rfl rfl rfl (by decide +kernel)
set_option maxRecDepth 65536 in
theorem w_c26 : (Jvm.Cond.code ({ cls := "java/lang/String", name := "<init>", desc := "(Ljava/lang/StringBuilder;)V" } : Jvm.MethodName) jdk_42_method_53_code (2 : Nat) (Option.none : Option Jvm.ClassFile.FieldType)).before args0 about1 = true := code_word (m := ⟨7, 2⟩) (meth := k7m2) (c := k7c2) (by decide +kernel) rfl rfl rfl (by decide +kernel)
set_option maxRecDepth 65536 in
theorem w_c27 : (Jvm.Cond.code ({ cls := "java/lang/String", name := "<init>", desc := "(Ljava/lang/AbstractStringBuilder;Ljava/lang/Void;)V" } : Jvm.MethodName) jdk_42_method_150_code (5 : Nat) (Option.none : Option Jvm.ClassFile.FieldType)).before args0 about1 = true := code_word (m := ⟨7, 7⟩) (meth := k7m7) (c := k7c7) (by decide +kernel) rfl rfl rfl (by decide +kernel)
set_option maxRecDepth 65536 in
theorem w_c28 : (Jvm.Cond.code ({ cls := "java/lang/AbstractStringBuilder", name := "getValue", desc := "()[B" } : Jvm.MethodName) jdk_68_method_64_code (1 : Nat) (Option.some (Jvm.ClassFile.FieldType.array Jvm.ClassFile.FieldType.byte))).before args0 about1 = true := code_word (m := ⟨13, 6⟩) (meth := k13m6) (c := k13c6) (by decide +kernel) rfl rfl rfl (by decide +kernel)
set_option maxRecDepth 65536 in
theorem w_c29 : (Jvm.Cond.code ({ cls := "java/lang/StringBuilder", name := "length", desc := "()I" } : Jvm.MethodName) jdk_67_method_93_code (1 : Nat) (Option.some Jvm.ClassFile.FieldType.int)).before args0 about1 = true := code_word (m := ⟨14, 3⟩) (meth := k14m3) (c := k14c3) (by decide +kernel) rfl rfl rfl (by decide +kernel)
set_option maxRecDepth 65536 in
theorem w_c30 : (Jvm.Cond.code ({ cls := "java/lang/AbstractStringBuilder", name := "length", desc := "()I" } : Jvm.MethodName) jdk_68_method_6_code (1 : Nat) (Option.some Jvm.ClassFile.FieldType.int)).before args0 about1 = true := code_word (m := ⟨13, 2⟩) (meth := k13m2) (c := k13c2) (by decide +kernel) rfl rfl rfl (by decide +kernel)
set_option maxRecDepth 65536 in
theorem w_c31 : (Jvm.Cond.code ({ cls := "java/lang/AbstractStringBuilder", name := "isLatin1", desc := "()Z" } : Jvm.MethodName) jdk_68_method_68_code (1 : Nat) (Option.some Jvm.ClassFile.FieldType.boolean)).before args0 about1 = true := code_word (m := ⟨13, 7⟩) (meth := k13m7) (c := k13c7) (by decide +kernel) rfl rfl rfl (by decide +kernel)
set_option maxRecDepth 65536 in
theorem w_c32 : (Jvm.Cond.code ({ cls := "java/util/Arrays", name := "copyOfRange", desc := "([BII)[B" } : Jvm.MethodName) jdk_65_method_132_code (3 : Nat) (Option.some (Jvm.ClassFile.FieldType.array Jvm.ClassFile.FieldType.byte))).before args0 about1 = true := code_word (m := ⟨18, 2⟩) (meth := k18m2) (c := k18c2) (by decide +kernel) rfl rfl rfl (by decide +kernel)
set_option maxRecDepth 65536 in
theorem w_c33 : (Jvm.Cond.code ({ cls := "com/example/shardwright/shardwright/CommandException", name := "definition", desc := "(Ljava/lang/String;)Lcom/example/shardwright/shardwright/CommandException;" } : Jvm.MethodName) prog_1_method_3_code (1 : Nat) (Option.some (Jvm.ClassFile.FieldType.object "com/example/shardwright/shardwright/CommandException"))).before args0 about1 = true := code_word (m := ⟨11, 1⟩) (meth := k11m1) (c := k11c1) (by decide +kernel) rfl rfl rfl (by decide +kernel)
set_option maxRecDepth 65536 in
theorem w_c34 : (Jvm.Cond.code ({ cls := "com/example/shardwright/shardwright/CommandException", name := "<init>", desc := "(IZLjava/lang/String;)V" } : Jvm.MethodName) prog_1_method_1_code (4 : Nat) (Option.none : Option Jvm.ClassFile.FieldType)).before args0 about1 = true := code_word (m := ⟨11, 0⟩) (meth := k11m0) (c := k11c0) (by decide +kernel) rfl rfl rfl (by decide +kernel)
set_option maxRecDepth 65536 in
theorem w_c35 : (Jvm.Cond.code ({ cls := "java/lang/Exception", name := "<init>", desc := "(Ljava/lang/String;)V" } : Jvm.MethodName) jdk_59_method_2_code (2 : Nat) (Option.none : Option Jvm.ClassFile.FieldType)).before args0 about1 = true := code_word (m := ⟨10, 1⟩) (meth := k10m1) (c := k10c1) (by decide +kernel) rfl rfl rfl (by decide +kernel)
set_option maxRecDepth 65536 in
theorem w_c36 : (Jvm.Cond.code ({ cls := "java/lang/Throwable", name := "<init>", desc := "(Ljava/lang/String;)V" } : Jvm.MethodName) jdk_78_method_2_code (2 : Nat) (Option.none : Option Jvm.ClassFile.FieldType)).before args0 about1 = true := code_word (m := ⟨9, 1⟩) (meth := k9m1) (c := k9c1) (by decide +kernel) rfl rfl rfl (by decide +kernel)
set_option maxRecDepth 65536 in
theorem w_c37 : (Jvm.Cond.code ({ cls := "java/lang/Throwable", name := "<init>", desc := "()V" } : Jvm.MethodName) jdk_78_method_1_code (1 : Nat) (Option.none : Option Jvm.ClassFile.FieldType)).before args0 about1 = true := code_word (m := ⟨9, 0⟩) (meth := k9m0) (c := k9c0) (by decide +kernel) rfl rfl rfl (by decide +kernel)
set_option maxRecDepth 65536 in
theorem w_c38 : (Jvm.Cond.code ({ cls := "java/lang/Throwable", name := "getMessage", desc := "()Ljava/lang/String;" } : Jvm.MethodName) jdk_78_method_6_code (1 : Nat) (Option.some (Jvm.ClassFile.FieldType.object "java/lang/String"))).before args0 about1 = true := code_word (m := ⟨9, 2⟩) (meth := k9m2) (c := k9c2) (by decide +kernel) rfl rfl rfl (by decide +kernel)
set_option maxRecDepth 65536 in
theorem w_c39 : (Jvm.Cond.code ({ cls := "java/lang/String", name := "equals", desc := "(Ljava/lang/Object;)Z" } : Jvm.MethodName) jdk_42_method_66_code (3 : Nat) (Option.some Jvm.ClassFile.FieldType.boolean)).before args0 about1 = true := code_word (m := ⟨7, 4⟩) (meth := k7m4) (c := k7c4) (by decide +kernel) rfl rfl rfl (by decide +kernel)
set_option maxRecDepth 65536 in
theorem w_c40 : (Jvm.Cond.code ({ cls := "java/lang/StringLatin1", name := "equals", desc := "([B[B)Z" } : Jvm.MethodName) jdk_43_method_13_code (3 : Nat) (Option.some Jvm.ClassFile.FieldType.boolean)).before args0 about1 = true := code_word (m := ⟨20, 1⟩) (meth := k20m1) (c := k20c1) (by decide +kernel) rfl rfl rfl (by decide +kernel)
set_option maxRecDepth 65536 in
theorem w_c41 : (Jvm.Cond.code ({ cls := "com/example/shardwright/shardwright/CommandException", name := "exitCode", desc := "()I" } : Jvm.MethodName) prog_1_method_7_code (1 : Nat) (Option.some Jvm.ClassFile.FieldType.int)).before args0 about1 = true := code_word (m := ⟨11, 3⟩) (meth := k11m3) (c := k11c3) (by decide +kernel) rfl rfl rfl (by decide +kernel)
set_option maxRecDepth 65536 in
theorem w_c42 : (Jvm.Cond.code ({ cls := "com/example/shardwright/shardwright/CommandException", name := "showsUsage", desc := "()Z" } : Jvm.MethodName) prog_1_method_8_code (1 : Nat) (Option.some Jvm.ClassFile.FieldType.boolean)).before args0 about1 = true := code_word (m := ⟨11, 4⟩) (meth := k11m4) (c := k11c4) (by decide +kernel) rfl rfl rfl (by decide +kernel)
def codes1 : List Jvm.Cond := [Jvm.Cond.code x code maxLocals ret, Jvm.Cond.code ({ cls := "com/example/shardwright/shardwright/CommandExceptionMisfitPinLaw", name := "lo", desc := "(I)C" } : Jvm.MethodName) method_2_code (1 : Nat) (Option.some Jvm.ClassFile.FieldType.char), Jvm.Cond.code ({ cls := "com/example/shardwright/shardwright/CommandExceptionMisfitPinLaw", name := "hi", desc := "(I)C" } : Jvm.MethodName) method_3_code (1 : Nat) (Option.some Jvm.ClassFile.FieldType.char), Jvm.Cond.code ({ cls := "java/lang/String", name := "<init>", desc := "([C)V" } : Jvm.MethodName) jdk_42_method_3_code (2 : Nat) (Option.none : Option Jvm.ClassFile.FieldType), Jvm.Cond.code ({ cls := "java/lang/String", name := "<init>", desc := "([CIILjava/lang/Void;)V" } : Jvm.MethodName) jdk_42_method_149_code (6 : Nat) (Option.none : Option Jvm.ClassFile.FieldType), Jvm.Cond.code ({ cls := "java/lang/Object", name := "<init>", desc := "()V" } : Jvm.MethodName) object_method_1_code (1 : Nat) (Option.none : Option Jvm.ClassFile.FieldType), Jvm.Cond.code ({ cls := "java/lang/StringUTF16", name := "compress", desc := "([CII)[B" } : Jvm.MethodName) jdk_52_method_16_code (6 : Nat) (Option.some (Jvm.ClassFile.FieldType.array Jvm.ClassFile.FieldType.byte)), Jvm.Cond.code ({ cls := "java/lang/StringUTF16", name := "compress", desc := "([CI[BII)I" } : Jvm.MethodName) jdk_52_method_21_code (7 : Nat) (Option.some Jvm.ClassFile.FieldType.int), Jvm.Cond.code ({ cls := "java/lang/StringUTF16", name := "coderFromArrayLen", desc := "([BI)B" } : Jvm.MethodName) jdk_52_method_15_code (2 : Nat) (Option.some Jvm.ClassFile.FieldType.byte), Jvm.Cond.code ({ cls := "com/example/shardwright/shardwright/CommandException", name := "misfit", desc := "(Ljava/lang/String;Ljava/lang/String;Ljava/lang/String;)Lcom/example/shardwright/shardwright/CommandException;" } : Jvm.MethodName) prog_1_method_4_code (3 : Nat) (Option.some (Jvm.ClassFile.FieldType.object "com/example/shardwright/shardwright/CommandException")), Jvm.Cond.code ({ cls := "java/lang/StringBuilder", name := "<init>", desc := "()V" } : Jvm.MethodName) jdk_67_method_1_code (1 : Nat) (Option.none : Option Jvm.ClassFile.FieldType), Jvm.Cond.code ({ cls := "java/lang/AbstractStringBuilder", name := "<init>", desc := "(I)V" } : Jvm.MethodName) jdk_68_method_2_code (2 : Nat) (Option.none : Option Jvm.ClassFile.FieldType), Jvm.Cond.code ({ cls := "java/lang/StringBuilder", name := "append", desc := "(Ljava/lang/String;)Ljava/lang/StringBuilder;" } : Jvm.MethodName) jdk_67_method_7_code (2 : Nat) (Option.some (Jvm.ClassFile.FieldType.object "java/lang/StringBuilder")), Jvm.Cond.code ({ cls := "java/lang/AbstractStringBuilder", name := "append", desc := "(Ljava/lang/String;)Ljava/lang/AbstractStringBuilder;" } : Jvm.MethodName) jdk_68_method_22_code (3 : Nat) (Option.some (Jvm.ClassFile.FieldType.object "java/lang/AbstractStringBuilder")), Jvm.Cond.code ({ cls := "java/lang/String", name := "length", desc := "()I" } : Jvm.MethodName) jdk_42_method_54_code (1 : Nat) (Option.some Jvm.ClassFile.FieldType.int), Jvm.Cond.code ({ cls := "java/lang/String", name := "coder", desc := "()B" } : Jvm.MethodName) jdk_42_method_152_code (1 : Nat) (Option.some Jvm.ClassFile.FieldType.byte), Jvm.Cond.code ({ cls := "java/lang/AbstractStringBuilder", name := "ensureCapacityInternal", desc := "(I)V" } : Jvm.MethodName) jdk_68_method_9_code (3 : Nat) (Option.none : Option Jvm.ClassFile.FieldType), Jvm.Cond.code ({ cls := "java/lang/AbstractStringBuilder", name := "putStringAt", desc := "(ILjava/lang/String;)V" } : Jvm.MethodName) jdk_68_method_73_code (3 : Nat) (Option.none : Option Jvm.ClassFile.FieldType), Jvm.Cond.code ({ cls := "java/lang/AbstractStringBuilder", name := "inflateIfNeededFor", desc := "(Ljava/lang/String;)V" } : Jvm.MethodName) jdk_68_method_71_code (2 : Nat) (Option.none : Option Jvm.ClassFile.FieldType), Jvm.Cond.code ({ cls := "java/lang/String", name := "getBytes", desc := "([BIB)V" } : Jvm.MethodName) jdk_42_method_147_code (4 : Nat) (Option.none : Option Jvm.ClassFile.FieldType), Jvm.Cond.code ({ cls := "java/lang/AbstractStringBuilder", name := "newCapacity", desc := "(I)I" } : Jvm.MethodName) jdk_68_method_10_code (6 : Nat) (Option.some Jvm.ClassFile.FieldType.int), Jvm.Cond.code ({ cls := "jdk/internal/util/ArraysSupport", name := "newLength", desc := "(III)I" } : Jvm.MethodName) jdk_48_method_27_code (4 : Nat) (Option.some Jvm.ClassFile.FieldType.int), Jvm.Cond.code ({ cls := "java/lang/Math", name := "max", desc := "(II)I" } : Jvm.MethodName) jdk_29_method_65_code (2 : Nat) (Option.some Jvm.ClassFile.FieldType.int), Jvm.Cond.code ({ cls := "java/util/Arrays", name := "copyOf", desc := "([BI)[B" } : Jvm.MethodName) jdk_65_method_121_code (3 : Nat) (Option.some (Jvm.ClassFile.FieldType.array Jvm.ClassFile.FieldType.byte)), Jvm.Cond.code ({ cls := "java/lang/Math", name := "min", desc := "(II)I" } : Jvm.MethodName) jdk_29_method_69_code (2 : Nat) (Option.some Jvm.ClassFile.FieldType.int), Jvm.Cond.code ({ cls := "java/lang/StringBuilder", name := "toString", desc := "()Ljava/lang/String;" } : Jvm.MethodName) jdk_67_method_42_code (1 : Nat) (Option.some (Jvm.ClassFile.FieldType.object "java/lang/String")), Jvm.Cond.code ({ cls := "java/lang/String", name := "<init>", desc := "(Ljava/lang/StringBuilder;)V" } : Jvm.MethodName) jdk_42_method_53_code (2 : Nat) (Option.none : Option Jvm.ClassFile.FieldType), Jvm.Cond.code ({ cls := "java/lang/String", name := "<init>", desc := "(Ljava/lang/AbstractStringBuilder;Ljava/lang/Void;)V" } : Jvm.MethodName) jdk_42_method_150_code (5 : Nat) (Option.none : Option Jvm.ClassFile.FieldType), Jvm.Cond.code ({ cls := "java/lang/AbstractStringBuilder", name := "getValue", desc := "()[B" } : Jvm.MethodName) jdk_68_method_64_code (1 : Nat) (Option.some (Jvm.ClassFile.FieldType.array Jvm.ClassFile.FieldType.byte)), Jvm.Cond.code ({ cls := "java/lang/StringBuilder", name := "length", desc := "()I" } : Jvm.MethodName) jdk_67_method_93_code (1 : Nat) (Option.some Jvm.ClassFile.FieldType.int), Jvm.Cond.code ({ cls := "java/lang/AbstractStringBuilder", name := "length", desc := "()I" } : Jvm.MethodName) jdk_68_method_6_code (1 : Nat) (Option.some Jvm.ClassFile.FieldType.int), Jvm.Cond.code ({ cls := "java/lang/AbstractStringBuilder", name := "isLatin1", desc := "()Z" } : Jvm.MethodName) jdk_68_method_68_code (1 : Nat) (Option.some Jvm.ClassFile.FieldType.boolean), Jvm.Cond.code ({ cls := "java/util/Arrays", name := "copyOfRange", desc := "([BII)[B" } : Jvm.MethodName) jdk_65_method_132_code (3 : Nat) (Option.some (Jvm.ClassFile.FieldType.array Jvm.ClassFile.FieldType.byte)), Jvm.Cond.code ({ cls := "com/example/shardwright/shardwright/CommandException", name := "definition", desc := "(Ljava/lang/String;)Lcom/example/shardwright/shardwright/CommandException;" } : Jvm.MethodName) prog_1_method_3_code (1 : Nat) (Option.some (Jvm.ClassFile.FieldType.object "com/example/shardwright/shardwright/CommandException")), Jvm.Cond.code ({ cls := "com/example/shardwright/shardwright/CommandException", name := "<init>", desc := "(IZLjava/lang/String;)V" } : Jvm.MethodName) prog_1_method_1_code (4 : Nat) (Option.none : Option Jvm.ClassFile.FieldType), Jvm.Cond.code ({ cls := "java/lang/Exception", name := "<init>", desc := "(Ljava/lang/String;)V" } : Jvm.MethodName) jdk_59_method_2_code (2 : Nat) (Option.none : Option Jvm.ClassFile.FieldType), Jvm.Cond.code ({ cls := "java/lang/Throwable", name := "<init>", desc := "(Ljava/lang/String;)V" } : Jvm.MethodName) jdk_78_method_2_code (2 : Nat) (Option.none : Option Jvm.ClassFile.FieldType), Jvm.Cond.code ({ cls := "java/lang/Throwable", name := "<init>", desc := "()V" } : Jvm.MethodName) jdk_78_method_1_code (1 : Nat) (Option.none : Option Jvm.ClassFile.FieldType), Jvm.Cond.code ({ cls := "java/lang/Throwable", name := "getMessage", desc := "()Ljava/lang/String;" } : Jvm.MethodName) jdk_78_method_6_code (1 : Nat) (Option.some (Jvm.ClassFile.FieldType.object "java/lang/String")), Jvm.Cond.code ({ cls := "java/lang/String", name := "equals", desc := "(Ljava/lang/Object;)Z" } : Jvm.MethodName) jdk_42_method_66_code (3 : Nat) (Option.some Jvm.ClassFile.FieldType.boolean), Jvm.Cond.code ({ cls := "java/lang/StringLatin1", name := "equals", desc := "([B[B)Z" } : Jvm.MethodName) jdk_43_method_13_code (3 : Nat) (Option.some Jvm.ClassFile.FieldType.boolean), Jvm.Cond.code ({ cls := "com/example/shardwright/shardwright/CommandException", name := "exitCode", desc := "()I" } : Jvm.MethodName) prog_1_method_7_code (1 : Nat) (Option.some Jvm.ClassFile.FieldType.int), Jvm.Cond.code ({ cls := "com/example/shardwright/shardwright/CommandException", name := "showsUsage", desc := "()Z" } : Jvm.MethodName) prog_1_method_8_code (1 : Nat) (Option.some Jvm.ClassFile.FieldType.boolean)]
set_option maxRecDepth 65536 in
theorem codes_eq : words1.filter isCode = codes1 := rfl
theorem w_codes : ∀ c ∈ words1.filter isCode, c.before args0 about1 = true := by
  rw [codes_eq]
  intro c hc
  simp only [codes1, List.mem_cons, List.not_mem_nil, or_false] at hc
  rcases hc with rfl | rfl | rfl | rfl | rfl | rfl | rfl | rfl | rfl | rfl | rfl | rfl | rfl | rfl | rfl | rfl | rfl | rfl | rfl | rfl | rfl | rfl | rfl | rfl | rfl | rfl | rfl | rfl | rfl | rfl | rfl | rfl | rfl | rfl | rfl | rfl | rfl | rfl | rfl | rfl | rfl | rfl | rfl
  · exact w_c0
  · exact w_c1
  · exact w_c2
  · exact w_c3
  · exact w_c4
  · exact w_c5
  · exact w_c6
  · exact w_c7
  · exact w_c8
  · exact w_c9
  · exact w_c10
  · exact w_c11
  · exact w_c12
  · exact w_c13
  · exact w_c14
  · exact w_c15
  · exact w_c16
  · exact w_c17
  · exact w_c18
  · exact w_c19
  · exact w_c20
  · exact w_c21
  · exact w_c22
  · exact w_c23
  · exact w_c24
  · exact w_c25
  · exact w_c26
  · exact w_c27
  · exact w_c28
  · exact w_c29
  · exact w_c30
  · exact w_c31
  · exact w_c32
  · exact w_c33
  · exact w_c34
  · exact w_c35
  · exact w_c36
  · exact w_c37
  · exact w_c38
  · exact w_c39
  · exact w_c40
  · exact w_c41
  · exact w_c42
set_option maxRecDepth 65536 in
theorem w_t1 : (words1.take 24).all (fun c => isCode c || c.before args0 about1) = true := by decide +kernel
set_option maxRecDepth 65536 in
theorem w_t2 : ((words1.drop 24).take 24).all (fun c => isCode c || c.before args0 about1) = true := by decide +kernel
set_option maxRecDepth 65536 in
theorem w_t3 : (((words1.drop 24).drop 24).take 24).all (fun c => isCode c || c.before args0 about1) = true := by decide +kernel
set_option maxRecDepth 65536 in
theorem w_t4 : ((((words1.drop 24).drop 24).drop 24).take 24).all (fun c => isCode c || c.before args0 about1) = true := by decide +kernel
set_option maxRecDepth 65536 in
theorem w_t5 : (((((words1.drop 24).drop 24).drop 24).drop 24).take 24).all (fun c => isCode c || c.before args0 about1) = true := by decide +kernel
set_option maxRecDepth 65536 in
theorem w_t6 : ((((((words1.drop 24).drop 24).drop 24).drop 24).drop 24).take 24).all (fun c => isCode c || c.before args0 about1) = true := by decide +kernel
set_option maxRecDepth 65536 in
theorem w_t7 : (((((((words1.drop 24).drop 24).drop 24).drop 24).drop 24).drop 24).take 24).all (fun c => isCode c || c.before args0 about1) = true := by decide +kernel
set_option maxRecDepth 65536 in
theorem w_t8 : ((((((((words1.drop 24).drop 24).drop 24).drop 24).drop 24).drop 24).drop 24).take 24).all (fun c => isCode c || c.before args0 about1) = true := by decide +kernel
set_option maxRecDepth 65536 in
theorem w_t9 : (((((((((words1.drop 24).drop 24).drop 24).drop 24).drop 24).drop 24).drop 24).drop 24).take 24).all (fun c => isCode c || c.before args0 about1) = true := by decide +kernel
set_option maxRecDepth 65536 in
theorem w_t10 : ((((((((((words1.drop 24).drop 24).drop 24).drop 24).drop 24).drop 24).drop 24).drop 24).drop 24).take 24).all (fun c => isCode c || c.before args0 about1) = true := by decide +kernel
set_option maxRecDepth 65536 in
theorem w_t11 : ((((((((((words1.drop 24).drop 24).drop 24).drop 24).drop 24).drop 24).drop 24).drop 24).drop 24).drop 24).all (fun c => isCode c || c.before args0 about1) = true := by decide +kernel
theorem w_tables : (allAtoms (Jvm.Cond.code x code maxLocals ret :: tables_1)).before args0 about1 = true := by
  rw [allAtoms_all]
  show words1.all (fun c => c.before args0 about1) = true
  refine all_split ?_ w_codes
  rw [← List.take_append_drop 24 words1, List.all_append, w_t1, ← List.take_append_drop 24 (words1.drop 24), List.all_append, w_t2, ← List.take_append_drop 24 ((words1.drop 24).drop 24), List.all_append, w_t3, ← List.take_append_drop 24 (((words1.drop 24).drop 24).drop 24), List.all_append, w_t4, ← List.take_append_drop 24 ((((words1.drop 24).drop 24).drop 24).drop 24), List.all_append, w_t5, ← List.take_append_drop 24 (((((words1.drop 24).drop 24).drop 24).drop 24).drop 24), List.all_append, w_t6, ← List.take_append_drop 24 ((((((words1.drop 24).drop 24).drop 24).drop 24).drop 24).drop 24), List.all_append, w_t7, ← List.take_append_drop 24 (((((((words1.drop 24).drop 24).drop 24).drop 24).drop 24).drop 24).drop 24), List.all_append, w_t8, ← List.take_append_drop 24 ((((((((words1.drop 24).drop 24).drop 24).drop 24).drop 24).drop 24).drop 24).drop 24), List.all_append, w_t9, ← List.take_append_drop 24 (((((((((words1.drop 24).drop 24).drop 24).drop 24).drop 24).drop 24).drop 24).drop 24).drop 24), List.all_append, w_t10, w_t11]
  rfl
set_option maxRecDepth 65536 in
theorem w_rest : rest_1_c.before args0 about1 = true := by decide +kernel
set_option maxRecDepth 65536 in
theorem w_case : (Jvm.Cond.and given_1 narrow_1).before args0 about1 = true := by decide +kernel
set_option maxRecDepth 65536 in
theorem w_consts : constsHeld consts_1 about1 := Jvm.Lit.constsHeldB_iff.mp (by decide +kernel)
theorem w_applies : (headSpec (Jvm.Cond.code x code maxLocals ret :: tables_1) room_1).applies x e0.platform about1 = true :=
  (Spec.applies_iff w_frames).mpr ⟨w_running, w_runnable, w_alone, w_named, w_hears, w_ripe, w_room, w_tables⟩
theorem atStart : AtStart classFile x code maxLocals ret World_1 tables_1 room_1 Calls_1 rest_1 Pre_1 launch0 p0 e0 about1 theMethod args0 below0 :=
  ⟨lists_1, trivial, launch0.admits_env _ _ _, launch0.least_env, fairChoices_fair.cas, fairChoices_fair.clock, w_frames, w_args, w_heap, w_applies, ⟨(by decide +kernel : framesKnown about1 = true), ⟨(by decide +kernel : tablesKnown about1 = true), ⟨w_consts, trivial⟩⟩⟩, w_rest, w_case⟩
end start1
theorem witness_1 : WitnessClaimed_1 := ⟨start1.p0, start1.e0, start1.about1, start1.theMethod, start1.args0, start1.below0, start1.atStart⟩
end Jvm.Pilot.@@N@@
