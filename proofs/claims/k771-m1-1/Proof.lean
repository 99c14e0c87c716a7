import JvmDerived
import JvmDerived.Pilot.@@N@@Statement
import JvmDerived.Pilot.@@N@@Code
set_option linter.unusedVariables false
set_option linter.unusedSimpArgs false
/- laws to paste: Road.codOf, Road.low_at, shr0 (cut by pick.py; bodies as the Statement names them) -/
namespace Jvm.Pilot.@@N@@
namespace StrChars
open Jvm Sem ClassFile Op Lib Jvm.Stand Jvm.Free.XT Jvm.Free.ALB Jvm.Free.JM Jvm.Free
open Jvm.Lib.Cold (StaticIs)
/-- a char array whose places are chars -/
def Ch (a : Addr) (A : Cell) (U : State) : Prop := Arr .char a A U ∧ Typed .char A
theorem Ch.mv {a : Addr} {A : Cell} {U U' : State} (h : Ch a A U) (hal : U.vm.Alike U'.vm) (hh : U'.heap = U.heap) : Ch a A U' := ⟨h.1.mv hal hh, h.2⟩
theorem Ch.keep {a : Addr} {A : Cell} {U U' : State} (h : Ch a A U) (hal : U.vm.Alike U'.vm) (hk : U'.heap[a]? = some A) : Ch a A U' := ⟨h.1.keep hal hk, h.2⟩
/-- what place i of a char[]'s cell holds -/
def cv (A : Cell) (i : Nat) : Int32 := match A.slots[i]? with | some (.int x) => x | _ => 0
theorem Ch.get {a : Addr} {A : Cell} {U : State} (h : Ch a A U) {i : Nat} (hi : i < A.slots.size) : A.slots[i]? = some (.int (cv A i)) := by
  have e := Array.getElem?_eq_getElem hi
  have f := h.2 i _ e
  unfold cv; rw [e]
  generalize A.slots[i] = v at f
  cases v <;> simp [fits] at f ⊢
/-- the byte that i2b leaves of a char -/
def lo8 (x : Int32) : Int32 := x.toInt8.toInt32
theorem fits_lo8 (y : Int32) : fits .byte (.int (lo8 y)) = true := by
  have h1 := y.toInt8.le_toInt
  have h2 := y.toInt8.toInt_lt
  simp only [lo8, fits, Bool.and_eq_true, decide_eq_true_eq, Int32.le_iff_toInt_le, Int8.toInt_toInt32, show (-128 : Int32).toInt = -128 from by decide, show (127 : Int32).toInt = 127 from by decide]
  omega
/-- A' is A but that each place j of lo .. hi - 1 holds f j -/
def Laid (A A' : Cell) (lo hi : Nat) (f : Nat → Value) : Prop := A'.cls = A.cls ∧ A'.vm = A.vm ∧ A'.slots.size = A.slots.size ∧ ∀ i, A'.slots[i]? = if lo ≤ i ∧ i < hi then some (f i) else A.slots[i]?
theorem Laid.zero (A : Cell) (lo : Nat) (f : Nat → Value) : Laid A A lo (lo + 0) f := ⟨rfl, rfl, rfl, fun i => by rw [if_neg (by omega)]⟩
theorem Laid.step {A Ak : Cell} {lo k : Nat} {f : Nat → Value} {v : Value} (h : Laid A Ak lo k f) (hlo : lo ≤ k) (hk : k < Ak.slots.size) (hv : v = f k) : Laid A (Ak.setSlot k v) lo (k + 1) f := by
  refine ⟨h.1, h.2.1, by simpa [Cell.setSlot] using h.2.2.1, fun i => ?_⟩
  by_cases e : k = i
  · subst e; rw [Cell.slots_setSlot_self v hk, if_pos (by omega), hv]
  · rw [Cell.slots_setSlot_ne v e, h.2.2.2 i]
    by_cases q : lo ≤ i ∧ i < k
    · rw [if_pos q, if_pos (by omega)]
    · rw [if_neg q, if_neg (by omega)]
def U16 : String := "java/lang/StringUTF16"
namespace Cmp5
def yN : MethodName := ⟨"java/lang/StringUTF16", "compress", "([CI[BII)I"⟩
abbrev yB : ByteArray := jdk_52_method_21_code
theorem d0 : decode yB 0 = .ok (.iconst 0, 1) := by decide +kernel
theorem d1 : decode yB 1 = .ok (.istore 5, 2) := by decide +kernel
theorem d3 : decode yB 3 = .ok (.iload 5, 2) := by decide +kernel
theorem d5 : decode yB 5 = .ok (.iload 4, 2) := by decide +kernel
theorem d7 : decode yB 7 = .ok (.if_icmp (.ge) 37, 3) := by decide +kernel
theorem d10 : decode yB 10 = .ok (.aload_n 0, 1) := by decide +kernel
theorem d11 : decode yB 11 = .ok (.iload_n 1, 1) := by decide +kernel
theorem d12 : decode yB 12 = .ok (.caload, 1) := by decide +kernel
theorem d13 : decode yB 13 = .ok (.istore 6, 2) := by decide +kernel
theorem d15 : decode yB 15 = .ok (.iload 6, 2) := by decide +kernel
theorem d17 : decode yB 17 = .ok (.sipush 255, 3) := by decide +kernel
theorem d20 : decode yB 20 = .ok (.if_icmp (.le) 6, 3) := by decide +kernel
theorem d26 : decode yB 26 = .ok (.aload_n 2, 1) := by decide +kernel
theorem d27 : decode yB 27 = .ok (.iload_n 3, 1) := by decide +kernel
theorem d28 : decode yB 28 = .ok (.iload 6, 2) := by decide +kernel
theorem d30 : decode yB 30 = .ok (.i2b, 1) := by decide +kernel
theorem d31 : decode yB 31 = .ok (.bastore, 1) := by decide +kernel
theorem d32 : decode yB 32 = .ok (.iinc 1 1, 3) := by decide +kernel
theorem d35 : decode yB 35 = .ok (.iinc 3 1, 3) := by decide +kernel
theorem d38 : decode yB 38 = .ok (.iinc 5 1, 3) := by decide +kernel
theorem d41 : decode yB 41 = .ok (.goto (-38), 3) := by decide +kernel
theorem d44 : decode yB 44 = .ok (.iload 4, 2) := by decide +kernel
theorem d46 : decode yB 46 = .ok (.ireturn, 1) := by decide +kernel
def site : List Cond := []
def tab : Cond := tabOf yN yB 7 (some .int) site
def P (b : Addr) (A : Cell) (d : Addr) (B : Cell) (o q len : Nat) (args : Array Value) (s : State) : Prop := args = #[.ref b, .int (Int32.ofNat o), .ref d, .int (Int32.ofNat q), .int (Int32.ofNat len)] ∧ Ch b A s ∧ Arr .byte d B s ∧ b ≠ d ∧ o + len ≤ A.slots.size ∧ q + len ≤ B.slots.size ∧ ∀ i, i < len → ¬ 255 < cv A (o + i)
def E (b : Addr) (A : Cell) (d : Addr) (B : Cell) (o q len : Nat) (r : Option Value) (s u : State) : Prop := r = some (.int (Int32.ofNat len)) ∧ ∃ B', Put d B' s u ∧ Laid B B' q (q + len) (fun j => Value.int (lo8 (cv A (o + (j - q)))))
/-- no char of the range above 255: len; the places written hold each char's low byte -/
theorem law (l : Launch) (b : Addr) (A : Cell) (d : Addr) (B : Cell) (o q len : Nat) : Law l yN 5 5 0 0 yB 7 (some .int) site (P b A d B o q len) (E b A d B o q len) (copyLocs d q len) 0 0 := by
  refine Law.of_walk (plainFor_of_name (by decide +kernel)) (by decide +kernel) (by decide +kernel) (by decide) (fun _ _ h => by rw [h.1]; rfl) (fun _ U U' hal hh h => ⟨h.1, h.2.1.mv hal hh, h.2.2.1.mv hal hh, h.2.2.2⟩) (fun r U U' V V' h1 hal h2 h => ⟨h.1, h.2.elim fun B' q => ⟨B', q.1.mv h1 h2, q.2⟩⟩) ?_
  intro p e s m args below meth c s₁ X0 hexec hbytes hml hret hlk hnm hown hh0 W hP
  obtain ⟨rfl, hA, hB, hne, l1, l2, hp⟩ := hP
  have c1 : Steps p.tables e below (s₁.setTop (entryFrame m #[.ref b, .int (Int32.ofNat o), .ref d, .int (Int32.ofNat q), .int (Int32.ofNat len)] 7)) (s₁.setTop (mkF m 0 #[.val (.ref b), .val (.int (Int32.ofNat o)), .val (.ref d), .val (.int (Int32.ofNat q)), .val (.int (Int32.ofNat len)), .unset, .unset] [])) := entry rfl
  have hA0 := hA.1.mv X0.warmed.alike hh0
  have hB0 := hB.mv X0.warmed.alike hh0
  have a31 := hA.1.2.2.2
  have c2 : Steps p.tables e below (s₁.setTop (entryFrame m #[.ref b, .int (Int32.ofNat o), .ref d, .int (Int32.ofNat q), .int (Int32.ofNat len)] 7)) (s₁.setTop (mkF m 3 #[.val (.ref b), .val (.int (Int32.ofNat o)), .val (.ref d), .val (.int (Int32.ofNat q)), .val (.int (Int32.ofNat len)), .val (.int 0), .unset] [])) := c1.trans (by
    refine iconstV X0.here hexec rfl 0 (hb hbytes d0) (by decide) ?_
    refine XS.istore X0.here hexec rfl (hb hbytes d1) rfl rfl ?_
    exact Steps.refl _)
  have loop : ∀ (r i : Nat), i + r = len → ∀ (z : Slot), (z = .unset ∨ ∃ w, z = .val w ∧ w.category = 1) → ∀ (Tl : State) (Bk : Cell), Stand p l e { frames := 0, locals := 0, cells := 0, slots := 0 } s m #[.ref b, .int (Int32.ofNat o), .ref d, .int (Int32.ofNat q), .int (Int32.ofNat len)] below meth c Tl ([] ++ copyLocs d q i) 0 0 → Put d Bk s₁ Tl → Laid B Bk q (q + i) (fun j => Value.int (lo8 (cv A (o + (j - q))))) →
      Steps p.tables e below (s₁.setTop (entryFrame m #[.ref b, .int (Int32.ofNat o), .ref d, .int (Int32.ofNat q), .int (Int32.ofNat len)] 7)) (Tl.setTop (mkF m 3 #[.val (.ref b), .val (.int (Int32.ofNat (o + i))), .val (.ref d), .val (.int (Int32.ofNat (q + i))), .val (.int (Int32.ofNat len)), .val (.int (Int32.ofNat i)), z] [])) → ∃ (T' : State) (B' : Cell) (z' : Slot), Stand p l e { frames := 0, locals := 0, cells := 0, slots := 0 } s m #[.ref b, .int (Int32.ofNat o), .ref d, .int (Int32.ofNat q), .int (Int32.ofNat len)] below meth c T' ([] ++ copyLocs d q len) 0 0 ∧ Put d B' s₁ T' ∧ Laid B B' q (q + len) (fun j => Value.int (lo8 (cv A (o + (j - q))))) ∧
      Steps p.tables e below (s₁.setTop (entryFrame m #[.ref b, .int (Int32.ofNat o), .ref d, .int (Int32.ofNat q), .int (Int32.ofNat len)] 7)) (T'.setTop (mkF m 3 #[.val (.ref b), .val (.int (Int32.ofNat (o + len))), .val (.ref d), .val (.int (Int32.ofNat (q + len))), .val (.int (Int32.ofNat len)), .val (.int (Int32.ofNat len)), z'] [])) := by
    intro r
    induction r with
    | zero =>
      intro i hi z hz Tl Bk Xl pl fl cl
      have hil : i = len := by omega
      rw [hil] at Xl fl cl
      exact ⟨Tl, Bk, z, Xl, pl, fl, cl⟩
    | succ r ih =>
      intro i hi z hz Tl Bk Xl pl fl cl
      have all := X0.warmed.alike.symm.trans Xl.warmed.alike
      have hAl := hA0.keep all (pl.other hne hA0.1)
      have hBk := hB0.like all pl.1 fl.1 fl.2.1 fl.2.2.1
      have hlt : q + i < Bk.slots.size := by rw [fl.2.2.1]; omega
      have c3 : Steps p.tables e below (s₁.setTop (entryFrame m #[.ref b, .int (Int32.ofNat o), .ref d, .int (Int32.ofNat q), .int (Int32.ofNat len)] 7)) (Tl.setTop (mkF m 12 #[.val (.ref b), .val (.int (Int32.ofNat (o + i))), .val (.ref d), .val (.int (Int32.ofNat (q + i))), .val (.int (Int32.ofNat len)), .val (.int (Int32.ofNat i)), z] [.int (Int32.ofNat (o + i)), .ref b])) := cl.trans (by
        refine XS.iload Xl.here hexec rfl (hb hbytes d3) rfl ?_
        refine XS.iload Xl.here hexec rfl (hb hbytes d5) rfl ?_
        refine XS.icmpNo Xl.here hexec rfl (hb hbytes d7) rfl (ii_ge_f (lt32 (by omega) (by omega))) ?_
        refine XS.aloadN Xl.here hexec rfl (hb hbytes d10) rfl rfl ?_
        refine XS.iloadN Xl.here hexec rfl (hb hbytes d11) rfl ?_
        exact Steps.refl _)
      have c4 : Steps p.tables e below (s₁.setTop (entryFrame m #[.ref b, .int (Int32.ofNat o), .ref d, .int (Int32.ofNat q), .int (Int32.ofNat len)] 7)) (Tl.setTop (mkF m 13 #[.val (.ref b), .val (.int (Int32.ofNat (o + i))), .val (.ref d), .val (.int (Int32.ofNat (q + i))), .val (.int (Int32.ofNat len)), .val (.int (Int32.ofNat i)), z] [.int (cv A (o + i))])) := c3.trans (by
        refine Xl.aget hexec hAl rfl (hA.get (i := o + i) (by omega)) rfl rfl (hb hbytes d12) ?_
        exact Steps.refl _)
      have c5 : Steps p.tables e below (s₁.setTop (entryFrame m #[.ref b, .int (Int32.ofNat o), .ref d, .int (Int32.ofNat q), .int (Int32.ofNat len)] 7)) (Tl.setTop (mkF m 15 #[.val (.ref b), .val (.int (Int32.ofNat (o + i))), .val (.ref d), .val (.int (Int32.ofNat (q + i))), .val (.int (Int32.ofNat len)), .val (.int (Int32.ofNat i)), .val (.int (cv A (o + i)))] [])) := c4.trans (by
        refine XS.istoreS Xl.here hexec rfl (hb hbytes d13) rfl rfl hz ?_
        exact Steps.refl _)
      have c6 : Steps p.tables e below (s₁.setTop (entryFrame m #[.ref b, .int (Int32.ofNat o), .ref d, .int (Int32.ofNat q), .int (Int32.ofNat len)] 7)) (Tl.setTop (mkF m 31 #[.val (.ref b), .val (.int (Int32.ofNat (o + i))), .val (.ref d), .val (.int (Int32.ofNat (q + i))), .val (.int (Int32.ofNat len)), .val (.int (Int32.ofNat i)), .val (.int (cv A (o + i)))] [.int (lo8 (cv A (o + i))), .int (Int32.ofNat (q + i)), .ref d])) := c5.trans (by
        refine XS.iload Xl.here hexec rfl (hb hbytes d15) rfl ?_
        refine sipushV Xl.here hexec rfl 255 (hb hbytes d17) (by decide) ?_
        refine XS.icmpYes Xl.here hexec rfl (pc0 := 20) rfl (hb hbytes d20) rfl (ii_le_t (hp i (by omega))) (by decide) rfl ?_
        refine XS.aloadN Xl.here hexec rfl (hb hbytes d26) rfl rfl ?_
        refine XS.iloadN Xl.here hexec rfl (hb hbytes d27) rfl ?_
        refine XS.iload Xl.here hexec rfl (hb hbytes d28) rfl ?_
        refine i2b Xl.here hexec rfl (hb hbytes d30) rfl ?_
        exact Steps.refl _)
      obtain ⟨T7, X7, p7, st7⟩ := Xl.aput hexec hBk rfl hlt rfl (fits_lo8 (cv A (o + i))) (g := (mkF m 31 #[.val (.ref b), .val (.int (Int32.ofNat (o + i))), .val (.ref d), .val (.int (Int32.ofNat (q + i))), .val (.int (Int32.ofNat len)), .val (.int (Int32.ofNat i)), .val (.int (cv A (o + i)))] [.int (lo8 (cv A (o + i))), .int (Int32.ofNat (q + i)), .ref d])) rfl (rest := []) rfl (hb hbytes d31)
      have c8 : Steps p.tables e below (s₁.setTop (entryFrame m #[.ref b, .int (Int32.ofNat o), .ref d, .int (Int32.ofNat q), .int (Int32.ofNat len)] 7)) (T7.setTop (mkF m 32 #[.val (.ref b), .val (.int (Int32.ofNat (o + i))), .val (.ref d), .val (.int (Int32.ofNat (q + i))), .val (.int (Int32.ofNat len)), .val (.int (Int32.ofNat i)), .val (.int (cv A (o + i)))] [])) := c6.trans (st7 _ (Steps.refl _))
      have c9 : Steps p.tables e below (s₁.setTop (entryFrame m #[.ref b, .int (Int32.ofNat o), .ref d, .int (Int32.ofNat q), .int (Int32.ofNat len)] 7)) (T7.setTop (mkF m 3 #[.val (.ref b), .val (.int (Int32.ofNat (o + i) + 1)), .val (.ref d), .val (.int (Int32.ofNat (q + i) + 1)), .val (.int (Int32.ofNat len)), .val (.int (Int32.ofNat i + 1)), .val (.int (cv A (o + i)))] [])) := c8.trans (by
        refine iincV X7.here hexec rfl 1 (hb hbytes d32) (by decide) rfl rfl ?_
        refine iincV X7.here hexec rfl 1 (hb hbytes d35) (by decide) rfl rfl ?_
        refine iincV X7.here hexec rfl 1 (hb hbytes d38) (by decide) rfl rfl ?_
        refine XS.goto X7.here hexec rfl (pc0 := 41) rfl (hb hbytes d41) (by decide) rfl ?_
        exact Steps.refl _)
      have c10 : Steps p.tables e below (s₁.setTop (entryFrame m #[.ref b, .int (Int32.ofNat o), .ref d, .int (Int32.ofNat q), .int (Int32.ofNat len)] 7)) (T7.setTop (mkF m 3 #[.val (.ref b), .val (.int (Int32.ofNat (o + (i + 1)))), .val (.ref d), .val (.int (Int32.ofNat (q + (i + 1)))), .val (.int (Int32.ofNat len)), .val (.int (Int32.ofNat (i + 1))), .val (.int (cv A (o + i)))] [])) := by
        have := c9
        rw [succ32, succ32, succ32] at this
        exact this
      exact ih (i + 1) (by omega) _ (Or.inr ⟨_, rfl, rfl⟩) T7 _ (by rw [copyLocs_step, ← List.append_assoc]; exact X7) (pl.trans p7) (fl.step (by omega) hlt (by simp)) c10
  obtain ⟨T9, B9, z9, X9, p9, f9, g9⟩ := loop len 0 (by omega) .unset (Or.inl rfl) s₁ B (by simpa [copyLocs] using X0) ⟨hB0.1, fun _ _ => rfl, rfl⟩ (Laid.zero _ _ _) c2
  have c11 : Steps p.tables e below (s₁.setTop (entryFrame m #[.ref b, .int (Int32.ofNat o), .ref d, .int (Int32.ofNat q), .int (Int32.ofNat len)] 7)) (T9.setTop (mkF m 46 #[.val (.ref b), .val (.int (Int32.ofNat (o + len))), .val (.ref d), .val (.int (Int32.ofNat (q + len))), .val (.int (Int32.ofNat len)), .val (.int (Int32.ofNat len)), z9] [.int (Int32.ofNat len)])) := g9.trans (by
    refine XS.iload X9.here hexec rfl (hb hbytes d3) rfl ?_
    refine XS.iload X9.here hexec rfl (hb hbytes d5) rfl ?_
    refine XS.icmpYes X9.here hexec rfl (pc0 := 7) rfl (hb hbytes d7) rfl (ii_ge_t (nlt32 (by omega) (Nat.le_refl _))) (by decide) rfl ?_
    refine XS.iload X9.here hexec rfl (hb hbytes d44) rfl ?_
    exact Steps.refl _)
  exact ⟨T9, some (.int (Int32.ofNat len)), _, _, _, X9, by simp, rfl, rfl, (fun h => by cases h), ⟨rfl, B9, p9.from hh0, f9⟩, fun fs hl => c11.trans (X9.ireturnOut hexec hret rfl (Or.inl rfl) (hb hbytes d46) hl)⟩
end Cmp5
namespace Cmp3
def yN : MethodName := ⟨"java/lang/StringUTF16", "compress", "([CII)[B"⟩
abbrev yB : ByteArray := jdk_52_method_16_code
theorem d0 : decode yB 0 = .ok (.iload_n 2, 1) := by decide +kernel
theorem d1 : decode yB 1 = .ok (.newarray .byte, 2) := by decide +kernel
theorem d3 : decode yB 3 = .ok (.astore_n 3, 1) := by decide +kernel
theorem d4 : decode yB 4 = .ok (.aload_n 0, 1) := by decide +kernel
theorem d5 : decode yB 5 = .ok (.iload_n 1, 1) := by decide +kernel
theorem d6 : decode yB 6 = .ok (.aload_n 3, 1) := by decide +kernel
theorem d7 : decode yB 7 = .ok (.iconst 0, 1) := by decide +kernel
theorem d8 : decode yB 8 = .ok (.iload_n 2, 1) := by decide +kernel
theorem d9 : decode yB 9 = .ok (.invokestatic 115, 3) := by decide +kernel
theorem d12 : decode yB 12 = .ok (.istore 4, 2) := by decide +kernel
theorem d14 : decode yB 14 = .ok (.iload 4, 2) := by decide +kernel
theorem d16 : decode yB 16 = .ok (.iload_n 2, 1) := by decide +kernel
theorem d17 : decode yB 17 = .ok (.if_icmp (.eq) 40, 3) := by decide +kernel
theorem d57 : decode yB 57 = .ok (.aload_n 3, 1) := by decide +kernel
theorem d58 : decode yB 58 = .ok (.areturn, 1) := by decide +kernel
def site : List Cond := [.arrayClass .byte, Cmp5.tab] ++ staticW U16 115 Cmp5.yN
def tab : Cond := tabOf yN yB 6 (some (.array .byte)) site
def P (b : Addr) (A : Cell) (o len : Nat) (args : Array Value) (s : State) : Prop := args = #[.ref b, .int (Int32.ofNat o), .int (Int32.ofNat len)] ∧ Ch b A s ∧ o + len ≤ A.slots.size ∧ len ≤ 536870912 ∧ ∀ i, i < len → ¬ 255 < cv A (o + i)
def E (b : Addr) (A : Cell) (o len : Nat) (r : Option Value) (s u : State) : Prop := NewArr .byte "[B" len (fun j => .int (lo8 (cv A (o + j)))) r s u ∧ u.heap.size = s.heap.size + 1
/-- no char of the range above 255: a new byte[] of their low bytes -/
theorem law (l : Launch) (b : Addr) (A : Cell) (o len : Nat) : Law l yN 3 3 1 18 yB 6 (some (.array .byte)) site (P b A o len) (E b A o len) [] 1 len := by
  refine Law.of_walk (plainFor_of_name (by decide +kernel)) (by decide +kernel) (by decide +kernel) (by decide) (fun _ _ h => by rw [h.1]; rfl) (fun _ U U' hal hh h => ⟨h.1, h.2.1.mv hal hh, h.2.2⟩) (fun r U U' V V' h1 hal h2 h => ⟨NewArr.mv r U U' V V' h1 hal h2 h.1, by rw [h1, h2]; exact h.2⟩) ?_
  intro p e s m args below meth c s₁ X0 hexec hbytes hml hret hlk hnm hown hh0 W hP
  obtain ⟨rfl, hA, l1, l2, hp⟩ := hP
  have a31 := hA.1.2.2.2
  have c1 : Steps p.tables e below (s₁.setTop (entryFrame m #[.ref b, .int (Int32.ofNat o), .int (Int32.ofNat len)] 6)) (s₁.setTop (mkF m 0 #[.val (.ref b), .val (.int (Int32.ofNat o)), .val (.int (Int32.ofNat len)), .unset, .unset, .unset] [])) := entry rfl
  have c2 : Steps p.tables e below (s₁.setTop (entryFrame m #[.ref b, .int (Int32.ofNat o), .int (Int32.ofNat len)] 6)) (s₁.setTop (mkF m 1 #[.val (.ref b), .val (.int (Int32.ofNat o)), .val (.int (Int32.ofNat len)), .unset, .unset, .unset] [.int (Int32.ofNat len)])) := c1.trans (by
    refine XS.iloadN X0.here hexec rfl (hb hbytes d0) rfl ?_
    exact Steps.refl _)
  obtain ⟨T3, B3, X3, ba3, bs3, bv3, bh3, bf3, st3⟩ := X0.anew hexec (atype := .byte) (wk W (.arrayClass .byte)) rfl (by show len * 1 ≤ _; omega) (by omega) (g := (mkF m 1 #[.val (.ref b), .val (.int (Int32.ofNat o)), .val (.int (Int32.ofNat len)), .unset, .unset, .unset] [.int (Int32.ofNat len)])) rfl (hb hbytes d1) (rest := []) rfl (Nat.le_refl _) (by show 0 + len ≤ len; omega)
  rw [hh0] at ba3 st3
  have kp3 : XT.Kept s T3 := (XT.Kept.of_eq hh0).push bh3
  have hA3 := hA.keep X3.warmed.alike (kp3 _ _ hA.1.1)
  have hne : b ≠ s.heap.size := hA.1.ne
  have c4 : Steps p.tables e below (s₁.setTop (entryFrame m #[.ref b, .int (Int32.ofNat o), .int (Int32.ofNat len)] 6)) (T3.setTop (mkF m 3 #[.val (.ref b), .val (.int (Int32.ofNat o)), .val (.int (Int32.ofNat len)), .unset, .unset, .unset] [.ref s.heap.size])) := c2.trans (st3 _ (Steps.refl _))
  have c5 : Steps p.tables e below (s₁.setTop (entryFrame m #[.ref b, .int (Int32.ofNat o), .int (Int32.ofNat len)] 6)) (T3.setTop (mkF m 9 #[.val (.ref b), .val (.int (Int32.ofNat o)), .val (.int (Int32.ofNat len)), .val (.ref s.heap.size), .unset, .unset] [.int (Int32.ofNat len), .int 0, .ref s.heap.size, .int (Int32.ofNat o), .ref b])) := c4.trans (by
    refine XS.astoreN X3.here hexec rfl (hb hbytes d3) rfl rfl rfl ?_
    refine XS.aloadN X3.here hexec rfl (hb hbytes d4) rfl rfl ?_
    refine XS.iloadN X3.here hexec rfl (hb hbytes d5) rfl ?_
    refine XS.aloadN X3.here hexec rfl (hb hbytes d6) rfl rfl ?_
    refine iconstV X3.here hexec rfl 0 (hb hbytes d7) (by decide) ?_
    refine XS.iloadN X3.here hexec rfl (hb hbytes d8) rfl ?_
    exact Steps.refl _)
  obtain ⟨v6, T6, X6, E6, g6⟩ := X3.callS hexec (Cmp5.law l b A s.heap.size B3 o 0 len) hown (wks W (staticW U16 115 Cmp5.yN)) (wk W Cmp5.tab) (W := 0) (Nat.le_of_ble_eq_true rfl) (Nat.le_of_ble_eq_true rfl) (Nat.le_refl _) (by show 0 + len + 0 ≤ len; omega) (g := (mkF m 9 #[.val (.ref b), .val (.int (Int32.ofNat o)), .val (.int (Int32.ofNat len)), .val (.ref s.heap.size), .unset, .unset] [.int (Int32.ofNat len), .int (Int32.ofNat 0), .ref s.heap.size, .int (Int32.ofNat o), .ref b])) rfl (by rw [hml]; rfl) c5 (argsL := [.ref b, .int (Int32.ofNat o), .ref s.heap.size, .int (Int32.ofNat 0), .int (Int32.ofNat len)]) (rest := []) rfl rfl (by show 2 * 0 + 0 ≤ _; decide) (hb hbytes d9) (⟨rfl, hA3, ba3, hne, l1, by rw [bs3]; simp, hp⟩)
  obtain ⟨rfl, B6, p6, f6⟩ := E6
  have c7 : Steps p.tables e below (s₁.setTop (entryFrame m #[.ref b, .int (Int32.ofNat o), .int (Int32.ofNat len)] 6)) (T6.setTop (mkF m 12 #[.val (.ref b), .val (.int (Int32.ofNat o)), .val (.int (Int32.ofNat len)), .val (.ref s.heap.size), .unset, .unset] [.int (Int32.ofNat len)])) := g6
  have c8 : Steps p.tables e below (s₁.setTop (entryFrame m #[.ref b, .int (Int32.ofNat o), .int (Int32.ofNat len)] 6)) (T6.setTop (mkF m 58 #[.val (.ref b), .val (.int (Int32.ofNat o)), .val (.int (Int32.ofNat len)), .val (.ref s.heap.size), .val (.int (Int32.ofNat len)), .unset] [.ref s.heap.size])) := c7.trans (by
    refine XS.istore X6.here hexec rfl (hb hbytes d12) rfl rfl ?_
    refine XS.iload X6.here hexec rfl (hb hbytes d14) rfl ?_
    refine XS.iloadN X6.here hexec rfl (hb hbytes d16) rfl ?_
    refine XS.icmpYes X6.here hexec rfl (pc0 := 17) rfl (hb hbytes d17) rfl (ii_eq_t rfl) (by decide) rfl ?_
    refine XS.aloadN X6.here hexec rfl (hb hbytes d57) rfl rfl ?_
    exact Steps.refl _)
  have X8 := X6.wide (L' := []) (cells' := 1) (slots' := len) (fun x hx hlt => by
    simp only [List.nil_append, copyLocs, List.mem_map, List.mem_range] at hx
    obtain ⟨i, -, rfl⟩ := hx
    exact absurd hlt (Nat.lt_irrefl _)) (Nat.le_refl _) (by omega)
  exact ⟨T6, some (.ref s.heap.size), _, _, _, X8, rfl, rfl, rfl, (fun h => by cases h), ⟨⟨rfl, B6, ba3.like (X3.warmed.alike.symm.trans X6.warmed.alike) p6.1 f6.1 f6.2.1 f6.2.2.1, f6.2.1.trans bv3, by rw [X6.warmed.alike.findClass, f6.1]; exact bf3, by rw [f6.2.2.1, bs3]; simp, fun j hj => by rw [f6.2.2.2 j, if_pos (by omega)]; rfl, kp3.put p6 (Nat.le_refl _)⟩, by rw [p6.2.2, bh3, hh0]; simp⟩, fun fs hl => c8.trans (X8.areturnOut hexec rfl hret rfl (hb hbytes d58) hl)⟩
end Cmp3
namespace CodL
def yN : MethodName := ⟨"java/lang/StringUTF16", "coderFromArrayLen", "([BI)B"⟩
abbrev yB : ByteArray := jdk_52_method_15_code
theorem d0 : decode yB 0 = .ok (.iload_n 1, 1) := by decide +kernel
theorem d1 : decode yB 1 = .ok (.aload_n 0, 1) := by decide +kernel
theorem d2 : decode yB 2 = .ok (.arraylength, 1) := by decide +kernel
theorem d3 : decode yB 3 = .ok (.isub, 1) := by decide +kernel
theorem d4 : decode yB 4 = .ok (.bipush 31, 2) := by decide +kernel
theorem d6 : decode yB 6 = .ok (.iushr, 1) := by decide +kernel
theorem d7 : decode yB 7 = .ok (.i2b, 1) := by decide +kernel
theorem d8 : decode yB 8 = .ok (.ireturn, 1) := by decide +kernel
def site : List Cond := []
def tab : Cond := tabOf yN yB 2 (some .byte) site
def P (d : Addr) (B : Cell) (args : Array Value) (s : State) : Prop := args = #[.ref d, .int (Int32.ofNat B.slots.size)] ∧ Arr .byte d B s
def E (r : Option Value) (s u : State) : Prop := XT.PureE (some (.int 0)) r s u
/-- an array as long as the number of chars: LATIN1 -/
theorem law (l : Launch) (d : Addr) (B : Cell) : Law l yN 2 2 0 0 yB 2 (some .byte) site (P d B) E [] 0 0 := by
  refine Law.of_walk (plainFor_of_name (by decide +kernel)) (by decide +kernel) (by decide +kernel) (by decide) (fun _ _ h => by rw [h.1]; rfl) (fun _ U U' hal hh h => ⟨h.1, h.2.mv hal hh⟩) (fun r U U' V V' h1 hal h2 h => XT.PureE.mv r U U' V V' h1 hal h2 h) ?_
  intro p e s m args below meth c s₁ X0 hexec hbytes hml hret hlk hnm hown hh0 W hP
  obtain ⟨rfl, hB⟩ := hP
  have hB0 := hB.mv X0.warmed.alike hh0
  have c1 : Steps p.tables e below (s₁.setTop (entryFrame m #[.ref d, .int (Int32.ofNat B.slots.size)] 2)) (s₁.setTop (mkF m 0 #[.val (.ref d), .val (.int (Int32.ofNat B.slots.size))] [])) := entry rfl
  have c2 : Steps p.tables e below (s₁.setTop (entryFrame m #[.ref d, .int (Int32.ofNat B.slots.size)] 2)) (s₁.setTop (mkF m 2 #[.val (.ref d), .val (.int (Int32.ofNat B.slots.size))] [.ref d, .int (Int32.ofNat B.slots.size)])) := c1.trans (by
    refine XS.iloadN X0.here hexec rfl (hb hbytes d0) rfl ?_
    refine XS.aloadN X0.here hexec rfl (hb hbytes d1) rfl rfl ?_
    exact Steps.refl _)
  have c3 : Steps p.tables e below (s₁.setTop (entryFrame m #[.ref d, .int (Int32.ofNat B.slots.size)] 2)) (s₁.setTop (mkF m 8 #[.val (.ref d), .val (.int (Int32.ofNat B.slots.size))] [.int (lo8 (ushr (Int32.ofNat B.slots.size - Int32.ofNat B.slots.size) 31))])) := c2.trans (by
    refine X0.alen hexec hB0 rfl rfl (hb hbytes d2) ?_
    refine XS.isub X0.here hexec rfl (hb hbytes d3) rfl ?_
    refine bipushV X0.here hexec rfl 31 (hb hbytes d4) (by decide) ?_
    refine iushr X0.here hexec rfl (hb hbytes d6) rfl ?_
    refine i2b X0.here hexec rfl (hb hbytes d7) rfl ?_
    exact Steps.refl _)
  have e0 : lo8 (ushr (Int32.ofNat B.slots.size - Int32.ofNat B.slots.size) 31) = 0 := by rw [Int32.sub_self]; decide
  rw [e0] at c3
  exact ⟨s₁, some (.int 0), _, _, _, X0, rfl, rfl, rfl, (fun h => by cases h), ⟨rfl, hh0⟩, fun fs hl => c3.trans (X0.ireturnOut hexec hret rfl (Or.inr (Or.inr (Or.inl rfl))) (hb hbytes d8) hl)⟩
end CodL
/-- the String at a is Latin-1 over a new byte[] (the heap's one new cell): the low bytes of the len chars of A from o on; every cell but a is kept -/
def Got (a : Addr) (D : Cell) (fV fC : Field) (A : Cell) (o len : Nat) (r : Option Value) (s u : State) : Prop := r = none ∧ ∃ D' V : Cell, Blank "java/lang/String" a D' u ∧ Same D D' [fV.slot, fC.slot] ∧ D'.slots[fV.slot]? = some (.ref s.heap.size) ∧ D'.slots[fC.slot]? = some (.int 0) ∧ Arr .byte s.heap.size V u ∧ V.vm = .none ∧ u.vm.findClass "[B" = some V.cls ∧ V.slots.size = len ∧ (∀ j, j < len → V.slots[j]? = some (.int (lo8 (cv A (o + j))))) ∧ (∀ (y : Addr) (c : Cell), y ≠ a → s.heap[y]? = some c → u.heap[y]? = some c) ∧ u.heap.size = s.heap.size + 1
theorem Got.mv {a : Addr} {D A : Cell} {fV fC : Field} {o len : Nat} : ∀ r (U U' V V' : State), U'.heap = U.heap → V.vm.Alike V'.vm → V'.heap = V.heap → Got a D fV fC A o len r U V → Got a D fV fC A o len r U' V' :=
  fun r U U' V V' h1 hal h2 ⟨e0, D', X, a1, a2, a3, a4, a5, a6, a7, a8, a9, a10, a11⟩ => ⟨e0, D', X, a1.mv hal h2, a2, by rw [h1]; exact a3, a4, by rw [h1]; exact a5.mv hal h2, a6, by rw [hal.findClass]; exact a7, a8, a9, by rw [h1, h2]; exact a10, by rw [h1, h2]; exact a11⟩
namespace New4
def yN : MethodName := ⟨"java/lang/String", "<init>", "([CIILjava/lang/Void;)V"⟩
abbrev yB : ByteArray := jdk_42_method_149_code
theorem d0 : decode yB 0 = .ok (.aload_n 0, 1) := by decide +kernel
theorem d1 : decode yB 1 = .ok (.invokespecial 1, 3) := by decide +kernel
theorem d4 : decode yB 4 = .ok (.iload_n 3, 1) := by decide +kernel
theorem d5 : decode yB 5 = .ok (.ifCond (.ne) 22, 3) := by decide +kernel
theorem d27 : decode yB 27 = .ok (.getstatic 38, 3) := by decide +kernel
theorem d30 : decode yB 30 = .ok (.ifCond (.eq) 28, 3) := by decide +kernel
theorem d33 : decode yB 33 = .ok (.aload_n 1, 1) := by decide +kernel
theorem d34 : decode yB 34 = .ok (.iload_n 2, 1) := by decide +kernel
theorem d35 : decode yB 35 = .ok (.iload_n 3, 1) := by decide +kernel
theorem d36 : decode yB 36 = .ok (.invokestatic 177, 3) := by decide +kernel
theorem d39 : decode yB 39 = .ok (.astore 5, 2) := by decide +kernel
theorem d41 : decode yB 41 = .ok (.aload_n 0, 1) := by decide +kernel
theorem d42 : decode yB 42 = .ok (.aload 5, 2) := by decide +kernel
theorem d44 : decode yB 44 = .ok (.iload_n 3, 1) := by decide +kernel
theorem d45 : decode yB 45 = .ok (.invokestatic 47, 3) := by decide +kernel
theorem d48 : decode yB 48 = .ok (.putfield 15, 3) := by decide +kernel
theorem d51 : decode yB 51 = .ok (.aload_n 0, 1) := by decide +kernel
theorem d52 : decode yB 52 = .ok (.aload 5, 2) := by decide +kernel
theorem d54 : decode yB 54 = .ok (.putfield 9, 3) := by decide +kernel
theorem d57 : decode yB 57 = .ok (.return_, 1) := by decide +kernel
def site : List Cond := [.fieldLink "java/lang/String" 38 "java/lang/String" "COMPACT_STRINGS" "Z", Cmp3.tab, CodL.tab, .laysFinal "java/lang/String" "java/lang/String" "value" "[B", .fieldLink "java/lang/String" 9 "java/lang/String" "value" "[B", .laysFinal "java/lang/String" "java/lang/String" "coder" "B", .fieldLink "java/lang/String" 15 "java/lang/String" "coder" "B"] ++ objW "java/lang/String" 1 ++ staticW "java/lang/String" 177 Cmp3.yN ++ staticW "java/lang/String" 47 CodL.yN
def tab : Cond := tabOf yN yB 6 none site
def P (a : Addr) (D : Cell) (fV fC : Field) (b : Addr) (A : Cell) (z : Int32) (o len : Nat) (args : Array Value) (s : State) : Prop := args = #[.ref a, .ref b, .int (Int32.ofNat o), .int (Int32.ofNat len), .null] ∧ Blank "java/lang/String" a D s ∧ Found "java/lang/String" "value" "[B" fV s ∧ Found "java/lang/String" "coder" "B" fC s ∧ Ch b A s ∧ StaticIs s "java/lang/String" "COMPACT_STRINGS" "Z" (.int z) ∧ ¬ z = 0 ∧ 0 < len ∧ o + len ≤ A.slots.size ∧ len ≤ 536870912 ∧ ∀ i, i < len → ¬ 255 < cv A (o + i)
def E (a : Addr) (D : Cell) (fV fC : Field) (A : Cell) (o len : Nat) (r : Option Value) (s u : State) : Prop := Got a D fV fC A o len r s u
/-- len > 0, no char of the range above 255: a Latin-1 String of their low bytes -/
theorem law (l : Launch) (a : Addr) (D : Cell) (fV fC : Field) (b : Addr) (A : Cell) (z : Int32) (o len : Nat) : Law l yN 5 4 2 35 yB 6 none site (P a D fV fC b A z o len) (E a D fV fC A o len) [⟨a, fC.slot⟩, ⟨a, fV.slot⟩] 1 len := by
  refine Law.of_walk (plainFor_of_name (by decide +kernel)) (by decide +kernel) (by decide +kernel) (by decide) (fun _ _ h => by rw [h.1]; rfl) (fun _ U U' hal hh h => ⟨h.1, h.2.1.mv hal hh, h.2.2.1.al hal, h.2.2.2.1.al hal, h.2.2.2.2.1.mv hal hh, h.2.2.2.2.2.1.there hal hh, h.2.2.2.2.2.2⟩) (fun r U U' V V' h1 hal h2 h => Got.mv r U U' V V' h1 hal h2 h) ?_
  intro p e s m args below meth c s₁ X0 hexec hbytes hml hret hlk hnm hown hh0 W hP
  obtain ⟨rfl, hB, f1, f2, hA, s1, hz, l0, l1, l2, hp⟩ := hP
  have a31 := hA.1.2.2.2
  have c1 : Steps p.tables e below (s₁.setTop (entryFrame m #[.ref a, .ref b, .int (Int32.ofNat o), .int (Int32.ofNat len), .null] 6)) (s₁.setTop (mkF m 0 #[.val (.ref a), .val (.ref b), .val (.int (Int32.ofNat o)), .val (.int (Int32.ofNat len)), .val .null, .unset] [])) := entry rfl
  have c2 : Steps p.tables e below (s₁.setTop (entryFrame m #[.ref a, .ref b, .int (Int32.ofNat o), .int (Int32.ofNat len), .null] 6)) (s₁.setTop (mkF m 1 #[.val (.ref a), .val (.ref b), .val (.int (Int32.ofNat o)), .val (.int (Int32.ofNat len)), .val .null, .unset] [.ref a])) := c1.trans (by
    refine XS.aloadN X0.here hexec rfl (hb hbytes d0) rfl rfl ?_
    exact Steps.refl _)
  obtain ⟨T3, X3, q3, st3⟩ := X0.oinit hexec hown (wks W (objW "java/lang/String" 1)) (g := (mkF m 1 #[.val (.ref a), .val (.ref b), .val (.int (Int32.ofNat o)), .val (.int (Int32.ofNat len)), .val .null, .unset] [.ref a])) rfl (by rw [hml]; rfl) (rest := []) rfl (hb hbytes d1) (W := 0) (by show 2 * 0 + 0 ≤ _; decide) (Nat.le_of_ble_eq_true rfl) (Nat.le_of_ble_eq_true rfl)
  have hh3 := q3.trans hh0
  have c4 : Steps p.tables e below (s₁.setTop (entryFrame m #[.ref a, .ref b, .int (Int32.ofNat o), .int (Int32.ofNat len), .null] 6)) (T3.setTop (mkF m 27 #[.val (.ref a), .val (.ref b), .val (.int (Int32.ofNat o)), .val (.int (Int32.ofNat len)), .val .null, .unset] [])) := (c2.trans (st3 _ (Steps.refl _))).trans (by
    refine XS.iloadN X3.here hexec rfl (hb hbytes d4) rfl ?_
    refine XS.ifYes X3.here hexec rfl (pc0 := 5) rfl (hb hbytes d5) rfl (i0_ne_t (nz32 (by omega) l0)) (by decide) rfl ?_
    exact Steps.refl _)
  obtain ⟨T5, X5, q5, st5⟩ := X3.sget hexec hown (wk W (.fieldLink "java/lang/String" 38 "java/lang/String" "COMPACT_STRINGS" "Z")) s1 (fun _ _ h => by rw [hh3]; exact h) (g := (mkF m 27 #[.val (.ref a), .val (.ref b), .val (.int (Int32.ofNat o)), .val (.int (Int32.ofNat len)), .val .null, .unset] [])) rfl (hb hbytes d27)
  have hh5 := q5.trans hh3
  have c6 : Steps p.tables e below (s₁.setTop (entryFrame m #[.ref a, .ref b, .int (Int32.ofNat o), .int (Int32.ofNat len), .null] 6)) (T5.setTop (mkF m 30 #[.val (.ref a), .val (.ref b), .val (.int (Int32.ofNat o)), .val (.int (Int32.ofNat len)), .val .null, .unset] [.int z])) := c4.trans (st5 _ (Steps.refl _))
  have c7 : Steps p.tables e below (s₁.setTop (entryFrame m #[.ref a, .ref b, .int (Int32.ofNat o), .int (Int32.ofNat len), .null] 6)) (T5.setTop (mkF m 36 #[.val (.ref a), .val (.ref b), .val (.int (Int32.ofNat o)), .val (.int (Int32.ofNat len)), .val .null, .unset] [.int (Int32.ofNat len), .int (Int32.ofNat o), .ref b])) := c6.trans (by
    refine XS.ifNo X5.here hexec rfl (hb hbytes d30) rfl (i0_eq_f hz) ?_
    refine XS.aloadN X5.here hexec rfl (hb hbytes d33) rfl rfl ?_
    refine XS.iloadN X5.here hexec rfl (hb hbytes d34) rfl ?_
    refine XS.iloadN X5.here hexec rfl (hb hbytes d35) rfl ?_
    exact Steps.refl _)
  obtain ⟨v8, T8, X8, E8, g8⟩ := X5.callS hexec (Cmp3.law l b A o len) hown (wks W (staticW "java/lang/String" 177 Cmp3.yN)) (wk W Cmp3.tab) (W := 0) (Nat.le_of_ble_eq_true rfl) (Nat.le_of_ble_eq_true rfl) (Nat.le_refl _) (by show 0 + len ≤ len; omega) (g := (mkF m 36 #[.val (.ref a), .val (.ref b), .val (.int (Int32.ofNat o)), .val (.int (Int32.ofNat len)), .val .null, .unset] [.int (Int32.ofNat len), .int (Int32.ofNat o), .ref b])) rfl (by rw [hml]; rfl) c7 (argsL := [.ref b, .int (Int32.ofNat o), .int (Int32.ofNat len)]) (rest := []) rfl rfl (by show 2 * 0 + 0 ≤ _; decide) (hb hbytes d36) (⟨rfl, hA.mv X5.warmed.alike hh5, l1, l2, hp⟩)
  obtain ⟨e8, z8⟩ := E8
  obtain ⟨rfl, N, n1, n2, n3, n4, n5, n6⟩ := NewArr.mv _ T5 s _ _ hh5.symm (Vm.Alike.refl _) rfl e8
  rw [hh5] at z8
  have hB1 := hB.keep X8.warmed.alike (n6 _ _ hB.1)
  have hne : s.heap.size ≠ a := (Nat.ne_of_lt (Array.getElem?_eq_some_iff.mp hB.1).1).symm
  have c9 : Steps p.tables e below (s₁.setTop (entryFrame m #[.ref a, .ref b, .int (Int32.ofNat o), .int (Int32.ofNat len), .null] 6)) (T8.setTop (mkF m 39 #[.val (.ref a), .val (.ref b), .val (.int (Int32.ofNat o)), .val (.int (Int32.ofNat len)), .val .null, .unset] [.ref s.heap.size])) := g8
  have c10 : Steps p.tables e below (s₁.setTop (entryFrame m #[.ref a, .ref b, .int (Int32.ofNat o), .int (Int32.ofNat len), .null] 6)) (T8.setTop (mkF m 45 #[.val (.ref a), .val (.ref b), .val (.int (Int32.ofNat o)), .val (.int (Int32.ofNat len)), .val .null, .val (.ref s.heap.size)] [.int (Int32.ofNat N.slots.size), .ref s.heap.size, .ref a])) := by
    have hc : Steps p.tables e below (s₁.setTop (entryFrame m #[.ref a, .ref b, .int (Int32.ofNat o), .int (Int32.ofNat len), .null] 6)) (T8.setTop (mkF m 45 #[.val (.ref a), .val (.ref b), .val (.int (Int32.ofNat o)), .val (.int (Int32.ofNat len)), .val .null, .val (.ref s.heap.size)] [.int (Int32.ofNat len), .ref s.heap.size, .ref a])) := c9.trans (by
      refine XS.astore X8.here hexec rfl (hb hbytes d39) rfl rfl rfl ?_
      refine XS.aloadN X8.here hexec rfl (hb hbytes d41) rfl rfl ?_
      refine XS.aload X8.here hexec rfl (hb hbytes d42) rfl rfl ?_
      refine XS.iloadN X8.here hexec rfl (hb hbytes d44) rfl ?_
      exact Steps.refl _)
    rw [n4]; exact hc
  obtain ⟨v11, T11, X11, E11, g11⟩ := X8.callS hexec (CodL.law l s.heap.size N) hown (wks W (staticW "java/lang/String" 47 CodL.yN)) (wk W CodL.tab) (W := 1) (Nat.le_of_ble_eq_true rfl) (Nat.le_of_ble_eq_true rfl) (Nat.le_refl _) (by show 0 + len + 0 ≤ len; omega) (g := (mkF m 45 #[.val (.ref a), .val (.ref b), .val (.int (Int32.ofNat o)), .val (.int (Int32.ofNat len)), .val .null, .val (.ref s.heap.size)] [.int (Int32.ofNat N.slots.size), .ref s.heap.size, .ref a])) rfl (by rw [hml]; rfl) c10 (argsL := [.ref s.heap.size, .int (Int32.ofNat N.slots.size)]) (rest := [.ref a]) rfl rfl (by show 2 * 0 + (1 + 0) ≤ _; decide) (hb hbytes d45) (⟨rfl, n1⟩)
  obtain ⟨rfl, q11⟩ := E11
  have hB11 := hB1.mv (X8.warmed.alike.symm.trans X11.warmed.alike) q11
  have c12 : Steps p.tables e below (s₁.setTop (entryFrame m #[.ref a, .ref b, .int (Int32.ofNat o), .int (Int32.ofNat len), .null] 6)) (T11.setTop (mkF m 48 #[.val (.ref a), .val (.ref b), .val (.int (Int32.ofNat o)), .val (.int (Int32.ofNat len)), .val .null, .val (.ref s.heap.size)] [.int 0, .ref a])) := g11
  obtain ⟨T13, X13, p13, bl13, sl13, st13⟩ := X11.finit hexec hown (wk W (.fieldLink "java/lang/String" 15 "java/lang/String" "coder" "B")) (Or.inr ⟨_, (wk W (.laysFinal "java/lang/String" "java/lang/String" "coder" "B"))⟩) (Or.inl ⟨rfl, hnm⟩) f2 (Or.inl rfl) hB11 (t := .byte) (by decide +kernel) rfl (g := (mkF m 48 #[.val (.ref a), .val (.ref b), .val (.int (Int32.ofNat o)), .val (.int (Int32.ofNat len)), .val .null, .val (.ref s.heap.size)] [.int 0, .ref a])) rfl (rest := []) rfl (hb hbytes d48)
  have c14 : Steps p.tables e below (s₁.setTop (entryFrame m #[.ref a, .ref b, .int (Int32.ofNat o), .int (Int32.ofNat len), .null] 6)) (T13.setTop (mkF m 54 #[.val (.ref a), .val (.ref b), .val (.int (Int32.ofNat o)), .val (.int (Int32.ofNat len)), .val .null, .val (.ref s.heap.size)] [.ref s.heap.size, .ref a])) := (c12.trans (st13 _ (Steps.refl _))).trans (by
    refine XS.aloadN X13.here hexec rfl (hb hbytes d51) rfl rfl ?_
    refine XS.aload X13.here hexec rfl (hb hbytes d52) rfl rfl ?_
    exact Steps.refl _)
  obtain ⟨T15, X15, p15, bl15, sl15, st15⟩ := X13.finit hexec hown (wk W (.fieldLink "java/lang/String" 9 "java/lang/String" "value" "[B")) (Or.inr ⟨_, (wk W (.laysFinal "java/lang/String" "java/lang/String" "value" "[B"))⟩) (Or.inl ⟨rfl, hnm⟩) f1 (Or.inl rfl) bl13 (t := (.array .byte)) (by decide +kernel) rfl (g := (mkF m 54 #[.val (.ref a), .val (.ref b), .val (.int (Int32.ofNat o)), .val (.int (Int32.ofNat len)), .val .null, .val (.ref s.heap.size)] [.ref s.heap.size, .ref a])) rfl (rest := []) rfl (hb hbytes d54)
  have c16 : Steps p.tables e below (s₁.setTop (entryFrame m #[.ref a, .ref b, .int (Int32.ofNat o), .int (Int32.ofNat len), .null] 6)) (T15.setTop (mkF m 57 #[.val (.ref a), .val (.ref b), .val (.int (Int32.ofNat o)), .val (.int (Int32.ofNat len)), .val .null, .val (.ref s.heap.size)] [])) := c14.trans (st15 _ (Steps.refl _))
  have ap := apart (Or.inr ⟨_, (wk W (.laysFinal "java/lang/String" "java/lang/String" "value" "[B"))⟩) (Or.inr ⟨_, (wk W (.laysFinal "java/lang/String" "java/lang/String" "coder" "B"))⟩) f1 f2 (t₁ := .array .byte) (t₂ := .byte) (by decide +kernel) (by decide +kernel) (by decide)
  have al := X8.warmed.alike.symm.trans X15.warmed.alike
  have n7 : T11.heap[s.heap.size]? = some N := by rw [q11]; exact n1.1
  exact ⟨T15, none, _, _, _, X15, by simp, rfl, by omega, (fun _ => rfl), ⟨rfl, _, N, bl15, ((Same.refl D _).set _ (by simp)).set _ (by simp), sl15, (Cell.slots_setSlot_ne _ ap).trans sl13, n1.keep al (p15.other hne (p13.other hne n7)), n2, by rw [al.findClass]; exact n3, n4, n5, fun y c h1 h2 => p15.other h1 (p13.other h1 (by rw [q11]; exact n6 y c h2)), by rw [p15.2.2, p13.2.2, q11]; exact z8⟩, fun fs hl => c16.trans (X15.returnOut hexec hret (hb hbytes d57) hl)⟩
end New4
namespace New1
def yN : MethodName := ⟨"java/lang/String", "<init>", "([C)V"⟩
abbrev yB : ByteArray := jdk_42_method_3_code
theorem d0 : decode yB 0 = .ok (.aload_n 0, 1) := by decide +kernel
theorem d1 : decode yB 1 = .ok (.aload_n 1, 1) := by decide +kernel
theorem d2 : decode yB 2 = .ok (.iconst 0, 1) := by decide +kernel
theorem d3 : decode yB 3 = .ok (.aload_n 1, 1) := by decide +kernel
theorem d4 : decode yB 4 = .ok (.arraylength, 1) := by decide +kernel
theorem d5 : decode yB 5 = .ok (.aconst_null, 1) := by decide +kernel
theorem d6 : decode yB 6 = .ok (.invokespecial 27, 3) := by decide +kernel
theorem d9 : decode yB 9 = .ok (.return_, 1) := by decide +kernel
def site : List Cond := [New4.tab] ++ initW "java/lang/String" 27 New4.yN
def tab : Cond := tabOf yN yB 2 none site
def P (a : Addr) (D : Cell) (fV fC : Field) (b : Addr) (A : Cell) (z : Int32) (args : Array Value) (s : State) : Prop := args = #[.ref a, .ref b] ∧ Blank "java/lang/String" a D s ∧ Found "java/lang/String" "value" "[B" fV s ∧ Found "java/lang/String" "coder" "B" fC s ∧ Ch b A s ∧ StaticIs s "java/lang/String" "COMPACT_STRINGS" "Z" (.int z) ∧ ¬ z = 0 ∧ 0 < A.slots.size ∧ A.slots.size ≤ 536870912 ∧ ∀ i, i < A.slots.size → ¬ 255 < cv A i
def E (a : Addr) (D : Cell) (fV fC : Field) (A : Cell) (r : Option Value) (s u : State) : Prop := Got a D fV fC A 0 A.slots.size r s u
/-- new String(chars), not empty, no char above 255: a Latin-1 String of their low bytes -/
theorem law (l : Launch) (a : Addr) (D : Cell) (fV fC : Field) (b : Addr) (A : Cell) (z : Int32) : Law l yN 2 1 3 52 yB 2 none site (P a D fV fC b A z) (E a D fV fC A) [⟨a, fC.slot⟩, ⟨a, fV.slot⟩] 1 A.slots.size := by
  refine Law.of_walk (plainFor_of_name (by decide +kernel)) (by decide +kernel) (by decide +kernel) (by decide) (fun _ _ h => by rw [h.1]; rfl) (fun _ U U' hal hh h => ⟨h.1, h.2.1.mv hal hh, h.2.2.1.al hal, h.2.2.2.1.al hal, h.2.2.2.2.1.mv hal hh, h.2.2.2.2.2.1.there hal hh, h.2.2.2.2.2.2⟩) (fun r U U' V V' h1 hal h2 h => Got.mv r U U' V V' h1 hal h2 h) ?_
  intro p e s m args below meth c s₁ X0 hexec hbytes hml hret hlk hnm hown hh0 W hP
  obtain ⟨rfl, hB, f1, f2, hA, s1, hz, l0, l2, hp⟩ := hP
  have c1 : Steps p.tables e below (s₁.setTop (entryFrame m #[.ref a, .ref b] 2)) (s₁.setTop (mkF m 0 #[.val (.ref a), .val (.ref b)] [])) := entry rfl
  have c2 : Steps p.tables e below (s₁.setTop (entryFrame m #[.ref a, .ref b] 2)) (s₁.setTop (mkF m 6 #[.val (.ref a), .val (.ref b)] [.null, .int (Int32.ofNat A.slots.size), .int 0, .ref b, .ref a])) := c1.trans (by
    refine XS.aloadN X0.here hexec rfl (hb hbytes d0) rfl rfl ?_
    refine XS.aloadN X0.here hexec rfl (hb hbytes d1) rfl rfl ?_
    refine iconstV X0.here hexec rfl 0 (hb hbytes d2) (by decide) ?_
    refine XS.aloadN X0.here hexec rfl (hb hbytes d3) rfl rfl ?_
    refine X0.alen hexec (hA.1.mv X0.warmed.alike hh0) rfl rfl (hb hbytes d4) ?_
    refine XS.aconstNull X0.here hexec rfl (hb hbytes d5) ?_
    exact Steps.refl _)
  obtain ⟨v3, T3, X3, E3, g3⟩ := X0.callN hexec (New4.law l a D fV fC b A z 0 A.slots.size) rfl hown (wks W (initW "java/lang/String" 27 New4.yN)) (W New4.tab (by simp only [site, List.mem_cons, List.mem_append, true_or, or_true])) (W := 0) (Nat.le_of_ble_eq_true rfl) (Nat.le_of_ble_eq_true rfl) (Nat.le_refl _) (by show 0 + A.slots.size ≤ A.slots.size; omega) (g := (mkF m 6 #[.val (.ref a), .val (.ref b)] [.null, .int (Int32.ofNat A.slots.size), .int (Int32.ofNat 0), .ref b, .ref a])) rfl (by rw [hml]; rfl) c2 (argsL := [.ref b, .int (Int32.ofNat 0), .int (Int32.ofNat A.slots.size), .null]) (rest := []) rfl rfl (by show 2 * 0 + 0 ≤ _; decide) (hb hbytes d6) (⟨rfl, hB.mv X0.warmed.alike hh0, f1.al X0.warmed.alike, f2.al X0.warmed.alike, hA.mv X0.warmed.alike hh0, s1.there X0.warmed.alike hh0, hz, l0, by omega, l2, fun i hi => by rw [Nat.zero_add]; exact hp i hi⟩)
  have e0 := Got.mv _ s₁ s _ _ hh0.symm (Vm.Alike.refl _) rfl E3
  obtain rfl := e0.1
  have c4 : Steps p.tables e below (s₁.setTop (entryFrame m #[.ref a, .ref b] 2)) (T3.setTop (mkF m 9 #[.val (.ref a), .val (.ref b)] [])) := g3
  exact ⟨T3, none, _, _, _, X3, by simp, rfl, by omega, (fun _ => rfl), e0, fun fs hl => c4.trans (X3.returnOut hexec hret (hb hbytes d9) hl)⟩
theorem pays {l : Launch} {R : Room} {p : Program} {e : Env} {below : List Frame} {s : State} {sargs : Array Value} {len W : Nat} (a : Addr) (D : Cell) (fV fC : Field) (b : Addr) (A : Cell) (z : Int32) (htab : tab.before sargs s = true) (hfr : 4 ≤ R.frames) (hlo : W + 65 ≤ R.locals) :
    Back l R p e below s sargs yN len W (fun A₁ a₁ => A₁.cells + 1 ≤ R.cells ∧ A₁.slots + A.slots.size ≤ R.slots ∧ P a D fV fC b A z a₁ A₁.U) (fun A₁ _ v₁ B₁ => E a D fV fC A v₁ A₁.U B₁.U ∧ B₁.locs = A₁.locs ++ [⟨a, fC.slot⟩, ⟨a, fV.slot⟩] ∧ B₁.cells = A₁.cells + 1 ∧ B₁.slots = A₁.slots + A.slots.size) :=
  (law l a D fV fC b A z).pays htab hfr (by omega)
end New1
end StrChars
namespace StrChars.Road
open Jvm Sem ClassFile Op Lib Jvm.Stand Jvm.Free Jvm.Free.XT
open Jvm.Lib.Cold (StaticIs)
abbrev ST : String := "java/lang/String"
/-- every table word that New1's law asks, flat -/
abbrev words : List Jvm.Cond := [.code New1.yN New1.yB 2 none, .initialized ST, .methodLink ST 27 New4.yN, .instanceMethod New4.yN,
  .code New4.yN New4.yB 6 none, .fieldLink ST 38 ST "COMPACT_STRINGS" "Z", .laysFinal ST ST "value" "[B", .fieldLink ST 9 ST "value" "[B", .laysFinal ST ST "coder" "B", .fieldLink ST 15 ST "coder" "B",
  .methodLink ST 1 Lib.objectInit, .instanceMethod Lib.objectInit, .code Lib.objectInit ⟨#[0xb1]⟩ 1 none, .methodLink ST 177 Cmp3.yN, .static Cmp3.yN, .methodLink ST 47 CodL.yN, .static CodL.yN,
  .code Cmp3.yN Cmp3.yB 6 (some (.array .byte)), .initialized U16, .arrayClass .byte, .methodLink U16 115 Cmp5.yN, .static Cmp5.yN, .code Cmp5.yN Cmp5.yB 7 (some .int), .code CodL.yN CodL.yB 2 (some .byte)]
theorem tab_of {a : Array Value} {s : State} (h : ∀ w ∈ words, w.before a s = true) : New1.tab.before a s = true := by
  have h5 : Cmp5.tab.before a s = true := unparts (wk h (.code Cmp5.yN Cmp5.yB 7 (some .int))) (wks h (.initialized Cmp5.yN.cls :: Cmp5.site))
  have hc : CodL.tab.before a s = true := unparts (wk h (.code CodL.yN CodL.yB 2 (some .byte))) (wks h (.initialized CodL.yN.cls :: CodL.site))
  have q5 : ∀ w ∈ Cmp5.tab :: words, w.before a s = true := fun w hw => (List.mem_cons.mp hw).elim (fun e => e ▸ h5) (h w)
  have h3 : Cmp3.tab.before a s = true := unparts (wk q5 (.code Cmp3.yN Cmp3.yB 6 (some (.array .byte)))) (wks q5 (.initialized Cmp3.yN.cls :: Cmp3.site))
  have q3 : ∀ w ∈ Cmp3.tab :: CodL.tab :: words, w.before a s = true := fun w hw => (List.mem_cons.mp hw).elim (fun e => e ▸ h3) fun hw => (List.mem_cons.mp hw).elim (fun e => e ▸ hc) (h w)
  have h4 : New4.tab.before a s = true := unparts (wk q3 (.code New4.yN New4.yB 6 none)) (wks q3 (.initialized New4.yN.cls :: New4.site))
  have q4 : ∀ w ∈ New4.tab :: words, w.before a s = true := fun w hw => (List.mem_cons.mp hw).elim (fun e => e ▸ h4) (h w)
  exact unparts (wk q4 (.code New1.yN New1.yB 2 none)) (wks q4 (.initialized New1.yN.cls :: New1.site))
/-- the words ride from the start Z to the walk's own state -/
theorem moved {Z s : State} {a0 args : Array Value} (hZ : Z.Warmed39 s.vm) (hw : ∀ d ∈ words, d.before a0 Z = true) : ∀ d ∈ words, d.before args s = true := fun d hd => by
  have q := hw d hd
  have t : ∀ d ∈ words, d = .arrayClass .byte ∨ (d.onTables && d.keepsFace) = true := by decide +kernel
  rcases t d hd with rfl | t
  · exact RoadKit.mvA hZ q
  · exact RoadKit.mv hZ q t
/-- WHAT COMES BACK, over the tables of the start Z: h the heap at the call, h' behind it -/
def Q (Z : State) (x : Addr) (A : Cell) (h : Heap) (v : Option Value) (h' : Heap) (L : List Loc) : Prop := v = none ∧ (∀ y ∈ L, y.base = x) ∧ RoadKit.Keep h h' [x] ∧ h'.size = h.size + 1 ∧ RoadKit.Exa Z h' x ST ∧ RoadKit.Fld Z h' x ST "value" "[B" (.ref h.size) ∧ RoadKit.Fld Z h' x ST "coder" "B" (.int 0) ∧
  (∃ V : Cell, RoadKit.Arr Z h' h.size V .byte ∧ V.vm = .none ∧ Z.vm.findClass "[B" = some V.cls ∧ V.slots.size = A.slots.size ∧ ∀ j, j < A.slots.size → V.slots[j]? = some (.int (lo8 (cv A j)))) ∧
  ∀ (O n d : String) (w : Value), RoadKit.Fld Z h x O n d w → RoadKit.slotOf Z O n d ≠ RoadKit.slotOf Z ST "value" "[B" → RoadKit.slotOf Z O n d ≠ RoadKit.slotOf Z ST "coder" "B" → RoadKit.Fld Z h' x O n d w
/-- **new String(chars) AT A CALL, IN THE ROAD'S FORM**: for specialBack behind newO: x the fresh String, b the char[] with the cell A -/
theorem back {p : Program} {l : Launch} {e : Env} {R : Room} {s : State} {args : Array Value} {below : List Frame} {len W : Nat} {Z : State} {a0 : Array Value} {h : Heap} (hZ : Z.Warmed39 s.vm) (hw : ∀ d ∈ words, d.before a0 Z = true) {kI : Nat} (wi : (Jvm.Cond.instantiable ST kI).before a0 Z = true)
    {x b : Addr} {A : Cell} {z : Int32} {v0 c0 : Value} (E : RoadKit.Exa Z h x ST) (V : RoadKit.Fld Z h x ST "value" "[B" v0) (C : RoadKit.Fld Z h x ST "coder" "B" c0) (K : RoadKit.Arr Z h b A .char) (hty : Typed .char A) (S : RoadKit.Sta Z h ST "COMPACT_STRINGS" "Z" (.int z)) (hz : ¬ z = 0)
    (l0 : 0 < A.slots.size) (l2 : A.slots.size ≤ 536870912) (hp : ∀ i, i < A.slots.size → ¬ 255 < cv A i) (hfr : 4 ≤ R.frames) (hlo : W + 65 ≤ R.locals) :
    Back l R p e below s args New1.yN len W (fun P a => a = #[.ref x, .ref b] ∧ P.U.heap = h ∧ P.cells + 1 ≤ R.cells ∧ P.slots + A.slots.size ≤ R.slots)
      (fun P _ v B => ∃ L, Q Z x A h v B.U.heap L ∧ B.locs = P.locs ++ L ∧ B.cells = P.cells + 1 ∧ B.slots = P.slots + A.slots.size) := by
  intro m meth c P g ig mk a X hg hsize hdg hW hn hp'
  obtain ⟨rfl, rfl, r1, r2⟩ := hp'
  have al : Z.vm.Alike P.U.vm := hZ.alike.trans X.warmed.alike
  obtain ⟨D, cfV, kV, iV, fV, hD, gV, stV, knV, obV, asV, slV⟩ := id V
  obtain ⟨D', cfC, kC, iC, fC, hD', gC, stC, -, -, asC, slC⟩ := id C
  cases hD.symm.trans hD'
  obtain ⟨D2, kD, e1, e2, e3, e4, e5⟩ := id E
  cases hD.symm.trans e1
  obtain ⟨c2, k2, i1, i2, i3, -⟩ := Cond.instantiable_spec wi
  cases e2.symm.trans i1
  cases e3.symm.trans i2
  obtain ⟨kU, u1, u2⟩ := al.2.2 _ _ e3
  have hB : Blank ST x D P.U := ⟨hD, ⟨knV, fun q hq => by rw [hq] at obV; cases obV⟩, by rw [al.findClass]; exact e2, kU, u1, by rw [u2]; exact i3, by rw [u2]; exact e5 i3⟩
  have F1 : Found ST "value" "[B" fV P.U := ⟨SBG.found_only al ⟨cfV, kV, iV, gV⟩, stV⟩
  have F2 : Found ST "coder" "B" fC P.U := ⟨SBG.found_only al ⟨cfC, kC, iC, gC⟩, stC⟩
  have hA : Ch b A P.U := ⟨⟨K.1, State.isArrayOf_alike al K.2.1, K.2.2, by omega⟩, hty⟩
  have hS : StaticIs P.U ST "COMPACT_STRINGS" "Z" (.int z) := by
    obtain ⟨cfS, iS, kS, fS, st, cS, t1, t2, t3, t4, t5, t6, t7⟩ := S
    exact StaticIs.there (s := { Z with heap := P.U.heap }) ⟨cfS, iS, kS, fS, st, cS, t1, t2, t3, t4, t5, (fun q => by rw [q] at t6; cases t6), t7⟩ al rfl
  obtain ⟨v, B, X', ⟨⟨hv, E', V', q1, q2, q3, q4, q5, q6, q7, q8, q9, q10, q11⟩, hl, hc, hs⟩, st⟩ := New1.pays x D fV fC b A z (tab_of (moved hZ hw)) hfr hlo m meth c P g ig mk _ X hg hsize hdg hW hn ⟨r1, r2, rfl, hB, F1, F2, hA, hS, hz, l0, l2, hp⟩
  have al' : Z.vm.Alike B.U.vm := hZ.alike.trans X'.warmed.alike
  have hsz : E'.slots.size = D.slots.size := by
    obtain ⟨-, -, -, kB, w1, w2, w3⟩ := q1
    obtain ⟨kB', y1, y2⟩ := al'.2.2 _ _ e3
    rw [q2.2.1] at w1
    cases w1.symm.trans y1
    rw [w3, e5 i3, y2]
  refine ⟨v, B, X', ⟨_, ⟨hv, ?_, ⟨by omega, fun y cy hy hn' => q10 y cy (by simpa using hn') hy, fun y cy hy => ?_⟩, q11, ⟨E', _, q1.1, by rw [q2.2.1]; exact e2, by rw [q2.2.1]; exact e3, by rw [q2.1]; exact obV, fun _ => by rw [hsz]; exact e5 i3⟩,
    ⟨E', cfV, kV, iV, fV, q1.1, gV, stV, by rw [q2.1]; exact knV, by rw [q2.1]; exact obV, by rw [q2.2.1]; exact asV, q3⟩, ⟨E', cfC, kC, iC, fC, q1.1, gC, stC, by rw [q2.1]; exact knV, by rw [q2.1]; exact obV, by rw [q2.2.1]; exact asC, q4⟩,
    ⟨V', ⟨q5.1, State.isArrayOf_alike al'.symm q5.2.1, q5.2.2.1⟩, q6, by rw [← al'.findClass]; exact q7, q8, fun j hj => by have := q9 j hj; rwa [Nat.zero_add] at this⟩, fun O n d w F n1 n2 => ?_⟩, hl, hc, hs⟩, st⟩
  · intro y hy
    simp only [List.mem_cons, List.not_mem_nil, or_false] at hy
    rcases hy with rfl | rfl <;> rfl
  · by_cases q : y = x
    · subst q
      cases hD.symm.trans hy
      exact ⟨E', q1.1, q2.2.1, q2.1, hsz⟩
    · exact ⟨cy, q10 y cy q hy, rfl, rfl, rfl⟩
  · obtain ⟨D3, cf, k, i, f, g1, g2, g3, g4, g5, g6, g7⟩ := F
    cases hD.symm.trans g1
    simp only [RoadKit.slotOf, g2, gV, gC, Option.map_some, Option.getD_some] at n1 n2
    exact ⟨E', cf, k, i, f, q1.1, g2, g3, by rw [q2.1]; exact g4, by rw [q2.1]; exact g5, by rw [q2.2.1]; exact g6, by rw [q2.2.2 f.slot (by simp [n1, n2])]; exact g7⟩
end StrChars.Road
namespace StrChars.Road
open Jvm Sem ClassFile Op Lib Jvm.Stand Jvm.Free Jvm.Free.XT
/-- WHAT COMES BACK, the byte[] as a list of values -/
def QA (Z : State) (x : Addr) (zn : Int32) (cs : List Int32) (h : Heap) (v : Option Value) (h' : Heap) (L : List Loc) : Prop := v = none ∧ (∀ y ∈ L, y.base = x) ∧ RoadKit.Keep h h' [x] ∧ h'.size = h.size + 1 ∧ RoadKit.Exa Z h' x ST ∧ RoadKit.Fld Z h' x ST "value" "[B" (.ref h.size) ∧ RoadKit.Fld Z h' x ST "coder" "B" (.int 0) ∧
  (∃ kb, Z.vm.findClass "[B" = some kb ∧ RoadKit.Arv Z h' h.size kb .byte zn (cs.map fun c => .int (lo8 c)) (.int 0)) ∧
  ∀ (O n d : String) (w : Value), RoadKit.Fld Z h x O n d w → RoadKit.slotOf Z O n d ≠ RoadKit.slotOf Z ST "value" "[B" → RoadKit.slotOf Z O n d ≠ RoadKit.slotOf Z ST "coder" "B" → RoadKit.Fld Z h' x O n d w
/-- **new String(chars) AT A CALL, THE ARRAYS AS LISTS**: the char[] at b holds cs, not empty, no char above 255 -/
theorem backArv {p : Program} {l : Launch} {e : Env} {R : Room} {s : State} {args : Array Value} {below : List Frame} {len W : Nat} {Z : State} {a0 : Array Value} {h : Heap} (hZ : Z.Warmed39 s.vm) (hw : ∀ d ∈ words, d.before a0 Z = true) {kI : Nat} (wi : (Jvm.Cond.instantiable ST kI).before a0 Z = true)
    {x b : Addr} {k : ClassId} {zn z : Int32} {cs : List Int32} {dv v0 c0 : Value} (E : RoadKit.Exa Z h x ST) (V : RoadKit.Fld Z h x ST "value" "[B" v0) (C : RoadKit.Fld Z h x ST "coder" "B" c0) (K : RoadKit.Arv Z h b k .char zn (cs.map Value.int) dv) (S : RoadKit.Sta Z h ST "COMPACT_STRINGS" "Z" (.int z)) (hz : ¬ z = 0)
    (hlen : zn.toNatClampNeg = cs.length) (h0 : 0 < cs.length) (hbig : cs.length ≤ 536870912) (hall : ∀ c ∈ cs, ¬ 255 < c) (hfr : 4 ≤ R.frames) (hlo : W + 65 ≤ R.locals) :
    Back l R p e below s args New1.yN len W (fun P a => a = #[.ref x, .ref b] ∧ P.U.heap = h ∧ P.cells + 1 ≤ R.cells ∧ P.slots + cs.length ≤ R.slots)
      (fun P _ v B => ∃ L, QA Z x zn cs h v B.U.heap L ∧ B.locs = P.locs ++ L ∧ B.cells = P.cells + 1 ∧ B.slots = P.slots + cs.length) := by
  obtain ⟨A, K1, K2, K3, K4, K5, K6⟩ := K
  have e : A.slots.size = cs.length := K3.trans hlen
  have hat : ∀ (i : Nat) (hi : i < cs.length), A.slots[i]? = some (.int cs[i]) := fun i hi => by rw [K5 i (by omega)]; simp [List.getD_eq_getElem?_getD, hi]
  have hcv : ∀ (i : Nat) (hi : i < cs.length), cv A i = cs[i] := fun i hi => by unfold cv; rw [hat i hi]
  have hty : Typed .char A := fun i v hv => by
    have hi : i < A.slots.size := (Array.getElem?_eq_some_iff.mp hv).1
    have q := K5 i hi
    rw [hv] at q
    rw [Option.some.inj q]
    exact K6 i hi
  refine Back.mono (back hZ hw wi E V C K1 hty S hz (by omega) (by omega) (fun i hi => by rw [hcv i (by omega)]; exact hall _ (List.getElem_mem _)) hfr hlo) (fun P a hp => ⟨hp.1, hp.2.1, hp.2.2.1, by rw [e]; exact hp.2.2.2⟩) (fun P a v B hp hq => ?_)
  obtain ⟨L, ⟨q1, q2, q3, q4, q5, q6, q7, ⟨V', v1, v2, v3, v4, v5⟩, q9⟩, hl, hc, hs⟩ := hq
  refine ⟨L, ⟨q1, q2, q3, q4, q5, q6, q7, ⟨V'.cls, v3, V', v1, rfl, by rw [v4, e, hlen], K4, fun i hi => ?_, fun i hi => ?_⟩, q9⟩, hl, hc, by rw [hs, e]⟩
  · have hi' : i < cs.length := by omega
    rw [v5 i (by omega), hcv i hi']; simp [List.getD_eq_getElem?_getD, hi']
  · have hi' : i < cs.length := by omega
    simp only [List.getD_eq_getElem?_getD, List.getElem?_map, List.getElem?_eq_getElem hi', Option.map_some, Option.getD_some]
    exact fits_lo8 _
end StrChars.Road
namespace StrChars.Road
open Jvm Sem ClassFile Op Lib Jvm.Stand Jvm.Free Jvm.Free.XT
/-- WHAT COMES BACK, in the writer's own shape -/
def QV (Z : State) (x : Addr) (N : Int32) (bs : List Int32) (h : Heap) (n0 : Nat) (v : Option Value) (h' : Heap) (L : List Loc) : Prop := v = none ∧ RoadKit.Fr n0 L ∧ RoadKit.Keep h h' [x] ∧ RoadKit.Exa Z h' x ST ∧ RoadKit.Fld Z h' x ST "coder" "B" (.int 0) ∧
  ∃ (t : Addr) (kb : ClassId), n0 ≤ t ∧ h.size ≤ t ∧ ¬ t = x ∧ RoadKit.Fld Z h' x ST "value" "[B" (.ref t) ∧ RoadKit.Arv Z h' t kb .byte N (bs.map Value.int) (.int 0)
/-- **new String(chars) AT A CALL, FOR THE WRITER**: a char[] of n known ints, each 0 to 255 -/
theorem backV {p : Program} {l : Launch} {e : Env} {R : Room} {s : State} {args : Array Value} {below : List Frame} {len W : Nat} {Z : State} {a0 : Array Value} {h : Heap} (hZ : Z.Warmed39 s.vm) (hw : ∀ d ∈ words, d.before a0 Z = true) {kI : Nat} (wi : (Jvm.Cond.instantiable ST kI).before a0 Z = true)
    {x b : Addr} {kC : ClassId} {cs bs : List Int32} {d v0 c0 : Value} {z N : Int32} {n n0 : Nat} (hx0 : n0 ≤ x) (hh0 : n0 ≤ h.size) (E : RoadKit.Exa Z h x ST) (V : RoadKit.Fld Z h x ST "value" "[B" v0) (C : RoadKit.Fld Z h x ST "coder" "B" c0) (K : RoadKit.Arv Z h b kC .char N (cs.map Value.int) d) (S : RoadKit.Sta Z h ST "COMPACT_STRINGS" "Z" (.int z)) (hz : ¬ z = 0)
    (hn : cs.length = n) (hN : N = Int32.ofNat n) (l0 : 0 < n) (l2 : n ≤ 4000) (hp : ∀ c ∈ cs, ¬ c < 0 ∧ ¬ (255 : Int32) < c) (hb : bs = cs.map (fun c => c.toInt8.toInt32)) (hfr : 4 ≤ R.frames) (hlo : W + 65 ≤ R.locals) :
    Back l R p e below s args (⟨"java/lang/String", "<init>", "([C)V"⟩ : MethodName) len W (fun P a => a = #[.ref x, .ref b] ∧ P.U.heap = h ∧ P.cells + 1 ≤ R.cells ∧ P.slots + n ≤ R.slots)
      (fun P _ v B => ∃ L, QV Z x N bs h n0 v B.U.heap L ∧ B.locs = P.locs ++ L ∧ B.cells = P.cells + 1 ∧ B.slots = P.slots + n) := by
  subst hn hN hb
  refine Back.mono (backArv hZ hw wi E V C K S hz (n32 (by omega)) l0 (by omega) (fun c hc => (hp c hc).2) hfr hlo) (fun P a hp => hp) (fun P a v B hp hq => ?_)
  obtain ⟨L, ⟨q1, q2, q3, q4, q5, q6, q7, ⟨kb, v1, v2⟩, q9⟩, hl, hc, hs⟩ := hq
  exact ⟨L, ⟨q1, fun y hy => by rw [q2 y hy]; exact hx0, q3, q5, q7, h.size, kb, hh0, Nat.le_refl _, Nat.ne_of_gt E.lt, q6, by rw [List.map_map]; exact v2⟩, hl, hc, hs⟩
end StrChars.Road
namespace StrChars
open Jvm Sem ClassFile Op Lib Jvm.Stand Jvm.Free.XT Jvm.Free.ALB Jvm.Free.JM Jvm.Free
open Jvm.Lib.Cold (StaticIs)
def hi8 (x : Int32) : Int32 := lo8 (x >>> ((8 : Int32) &&& 31))
theorem shr0 (c : Int32) : c >>> ((0 : Int32) &&& 31) = c := by
  have e : ((0 : Int32) &&& 31) = 0 := by decide
  rw [e]
  apply Int32.toBitVec_inj.mp
  rw [Int32.toBitVec_shiftRight]
  have e1 : ((0 : Int32).toBitVec.smod 32) = 0#32 := by decide
  rw [e1, BitVec.sshiftRight_eq']
  exact BitVec.sshiftRight_zero
end StrChars
namespace StrChars.Road
open Jvm Sem ClassFile Op Lib Jvm.Stand Jvm.Free Jvm.Free.XT
open Jvm.Lib.Cold (StaticIs)
/-- the bytes of the chars cs, low before high -/
def wideBytes : List Int32 → List Value
  | [] => []
  | c :: cs => .int (lo8 c) :: .int (hi8 c) :: wideBytes cs
theorem low_at (d : Value) (cs : List Int32) (j : Nat) (h : j < cs.length) : (cs.map fun c => Value.int (lo8 c)).getD j d = .int (lo8 (cs.getD j 0)) := by
  simp [List.getD_eq_getElem?_getD, h]
/-- an array of N2 bytes vs codes the chars cs by the coder cd -/
def CodA (cs : List Int32) (cd N2 : Int32) (vs : List Value) : Prop := (cd = 0 ∧ N2 = Int32.ofNat cs.length ∧ vs = (cs.map fun c => Value.int (lo8 c)) ∧ ∀ c ∈ cs, ¬ 255 < c) ∨ (cd = 1 ∧ N2 = Int32.ofNat (2 * cs.length) ∧ vs = wideBytes cs ∧ ∃ c ∈ cs, 255 < c)
end StrChars.Road
namespace StrChars.Road
open Jvm Sem ClassFile Op Lib Jvm.Stand Jvm.Free Jvm.Free.XT
open Jvm.Lib.Cold (StaticIs)
/-- what backV says of its String, as the contracts of this text ask it: cs's low bytes, coder 0 -/
theorem codOf {cs : List Int32} {n : Nat} (hn : cs.length = n) (hb : ∀ c ∈ cs, ¬ 255 < c) : CodA cs 0 (Int32.ofNat n) ((cs.map lo8).map Value.int) := Or.inl ⟨rfl, by rw [hn], by simp [List.map_map, Function.comp_def], hb⟩
end StrChars.Road
end Jvm.Pilot.@@N@@
namespace Jvm.Pilot.@@N@@
open Jvm Jvm.ClassFile Sem Op Lib Jvm.Free Jvm.Stand Jvm.LawKit Jvm.RoadKit Bundle Jvm.Pilot.@@N@@.Jvm.D
section OwnLayer
variable {p : Program} {l : Launch} {e : Env} {R : Room} {s : State} {m : MethodId} {args : Array Value} {below : List Frame} {meth : Method} {c : Code}
variable {Z : State} {a0 : Array Value} {EL : List (String × Nat)} {L0 : List Loc} {own nm : String} {bs : ByteArray} {ml : Nat} {rt : Option FieldType}
variable {T : State} {h : Heap} {SF : List Addr} {k j : Nat} {Q : Option Value → Heap → List Addr → Prop}
/-- where a walk stands: its frame's constants, the heap h, the cells SF that may be written, k new cells, j new slots; the tables may have interned meanwhile -/
def Owk (p : Program) (l : Launch) (e : Env) (R : Room) (s : State) (m : MethodId) (args : Array Value) (below : List Frame) (meth : Method) (c : Code) (Z : State) (a0 : Array Value) (EL : List (String × Nat)) (L0 : List Loc) (own nm : String) (bs : ByteArray) (ml : Nat) (rt : Option FieldType) (T : State) (h : Heap) (SF : List Addr) (k j : Nat) : Prop :=
  (p.tables.exec = Jvm.exec ∧ EW Z a0 EL ∧ s.vm.findClass own = some m.cls ∧ c.code = bs ∧ c.maxLocals = ml ∧ meth.sig.returnType = rt ∧ meth.locks = false ∧ meth.name = nm) ∧
  T.heap = h ∧ (∀ x ∈ SF, x < h.size) ∧ k ≤ R.cells ∧ j ≤ R.slots ∧
  ∃ (vm0 : Vm) (k0 : Nat), Stand p l e R (s.setVm vm0) m args below meth c T L0 k j ∧ Z.Warmed39 vm0 ∧ s.Since vm0 k0 ∧ k0 ≤ h.size ∧ CHr Z EL s.vm s.heap vm0 h ∧ ∀ x ∈ SF, Safe Z EL vm0 h x
/-- from the frame g at T the body comes to its return, with Q of what it returns and the heap then -/
def Ogo (p : Program) (l : Launch) (e : Env) (R : Room) (s : State) (m : MethodId) (args : Array Value) (below : List Frame) (meth : Method) (c : Code) (Z : State) (a0 : Array Value) (EL : List (String × Nat)) (L0 : List Loc) (own nm : String) (bs : ByteArray) (ml : Nat) (rt : Option FieldType) (T : State) (g : JFrame) (Q : Option Value → Heap → List Addr → Prop) : Prop :=
  ∃ (T' : State) (v : Option Value) (h' : Heap) (SF : List Addr) (k j : Nat), Owk p l e R s m args below meth c Z a0 EL L0 own nm bs ml rt T' h' SF k j ∧ (rt = none → v = none) ∧ Q v h' SF ∧
    ∀ fs, (∀ (f : JFrame) (acts : List Action), f.method = m → f.locked = none → f.entered = [] → (doReturn e (T'.setTop f) acts v).1 = T'.setFrames fs) → Steps p.tables e below (T.setTop g) (T'.setFrames fs)
theorem own_step {T2 : State} {g g2 : JFrame} (hs : ∀ t, Steps p.tables e below (T2.setTop g2) t → Steps p.tables e below (T.setTop g) t) (K : Ogo p l e R s m args below meth c Z a0 EL L0 own nm bs ml rt T2 g2 Q) : Ogo p l e R s m args below meth c Z a0 EL L0 own nm bs ml rt T g Q := by
  obtain ⟨T', v, h', SF', k', j', W, hv, hq, st⟩ := K
  exact ⟨T', v, h', SF', k', j', W, hv, hq, fun fs hl => hs _ (st fs hl)⟩
theorem Owk.at (W : Owk p l e R s m args below meth c Z a0 EL L0 own nm bs ml rt T h SF k j) : At T m c below := by obtain ⟨-, -, -, -, -, vm0, k0, X, -⟩ := W; exact X.here
theorem Owk.ex (W : Owk p l e R s m args below meth c Z a0 EL L0 own nm bs ml rt T h SF k j) : p.tables.exec = Jvm.exec := W.1.1
theorem Owk.hb (W : Owk p l e R s m args below meth c Z a0 EL L0 own nm bs ml rt T h SF k j) {pc : Nat} {r : Except ClassFile.DecodeError (ClassFile.Instr × Nat)} (h2 : decode bs pc = r) : decode c.code pc = r := by rw [W.1.2.2.2.1]; exact h2
theorem Owk.sf (W : Owk p l e R s m args below meth c Z a0 EL L0 own nm bs ml rt T h SF k j) {SF' : List Addr} (q : ∀ x ∈ SF', x ∈ SF) : Owk p l e R s m args below meth c Z a0 EL L0 own nm bs ml rt T h SF' k j := by
  obtain ⟨w1, w2, w3, w4, w5, vm0, k0, X, w6, w7, w8, w9, w10⟩ := W
  exact ⟨w1, w2, fun x hx => w3 x (q x hx), w4, w5, vm0, k0, X, w6, w7, w8, w9, fun x hx => w10 x (q x hx)⟩
theorem Owk.up (W : Owk p l e R s m args below meth c Z a0 EL L0 own nm bs ml rt T h SF k j) {k' j' : Nat} (q1 : k ≤ k') (q2 : j ≤ j') (r1 : k' ≤ R.cells) (r2 : j' ≤ R.slots) : Owk p l e R s m args below meth c Z a0 EL L0 own nm bs ml rt T h SF k' j' := by
  obtain ⟨w1, w2, w3, w4, w5, vm0, k0, X, w6, w7, w8, w9, w10⟩ := W
  exact ⟨w1, w2, w3, r1, r2, vm0, k0, X.mono q1 q2, w6, w7, w8, w9, w10⟩
theorem Owk.grown (W : Owk p l e R s m args below meth c Z a0 EL L0 own nm bs ml rt T h SF k j) : s.heap.size ≤ h.size := by
  obtain ⟨-, -, -, -, -, vm0, k0, -, -, -, -, w9, -⟩ := W; exact w9.2.1
/-! plain steps -/
section Plain
variable {pc pc' : Nat} {ls : Array Slot} {st : List Value}
theorem g_iloadN (W : Owk p l e R s m args below meth c Z a0 EL L0 own nm bs ml rt T h SF k j) {i : Fin 4} {v : Int32} (hd : decode bs pc = .ok (.iload_n i, 1)) (hp : pc' = pc + 1) (hl : ls[i.val]? = some (.val (.int v))) (K : Ogo p l e R s m args below meth c Z a0 EL L0 own nm bs ml rt T (mkF m pc' ls (.int v :: st)) Q) : Ogo p l e R s m args below meth c Z a0 EL L0 own nm bs ml rt T (mkF m pc ls st) Q := by
  subst hp; exact own_step (fun t q => XS.iloadN W.at W.ex rfl (W.hb hd) hl q) K
theorem g_iload (W : Owk p l e R s m args below meth c Z a0 EL L0 own nm bs ml rt T h SF k j) {i : Nat} {v : Int32} (hd : decode bs pc = .ok (.iload i, 2)) (hp : pc' = pc + 2) (hl : ls[i]? = some (.val (.int v))) (K : Ogo p l e R s m args below meth c Z a0 EL L0 own nm bs ml rt T (mkF m pc' ls (.int v :: st)) Q) : Ogo p l e R s m args below meth c Z a0 EL L0 own nm bs ml rt T (mkF m pc ls st) Q := by
  subst hp; exact own_step (fun t q => XS.iload W.at W.ex rfl (W.hb hd) hl q) K
theorem g_aloadN (W : Owk p l e R s m args below meth c Z a0 EL L0 own nm bs ml rt T h SF k j) {i : Fin 4} {v : Value} (hd : decode bs pc = .ok (.aload_n i, 1)) (hp : pc' = pc + 1) (hl : ls[i.val]? = some (.val v)) (hv : v.isRef = true) (K : Ogo p l e R s m args below meth c Z a0 EL L0 own nm bs ml rt T (mkF m pc' ls (v :: st)) Q) : Ogo p l e R s m args below meth c Z a0 EL L0 own nm bs ml rt T (mkF m pc ls st) Q := by
  subst hp; exact own_step (fun t q => XS.aloadN W.at W.ex rfl (W.hb hd) hl hv q) K
theorem g_aload (W : Owk p l e R s m args below meth c Z a0 EL L0 own nm bs ml rt T h SF k j) {i : Nat} {v : Value} (hd : decode bs pc = .ok (.aload i, 2)) (hp : pc' = pc + 2) (hl : ls[i]? = some (.val v)) (hv : v.isRef = true) (K : Ogo p l e R s m args below meth c Z a0 EL L0 own nm bs ml rt T (mkF m pc' ls (v :: st)) Q) : Ogo p l e R s m args below meth c Z a0 EL L0 own nm bs ml rt T (mkF m pc ls st) Q := by
  subst hp; exact own_step (fun t q => XS.aload W.at W.ex rfl (W.hb hd) hl hv q) K
theorem g_iconst (W : Owk p l e R s m args below meth c Z a0 EL L0 own nm bs ml rt T h SF k j) {i : Int} {v : Int32} (hd : decode bs pc = .ok (.iconst i, 1)) (hp : pc' = pc + 1) (hv : Int32.ofInt i = v) (K : Ogo p l e R s m args below meth c Z a0 EL L0 own nm bs ml rt T (mkF m pc' ls (.int v :: st)) Q) : Ogo p l e R s m args below meth c Z a0 EL L0 own nm bs ml rt T (mkF m pc ls st) Q := by
  subst hp hv; exact own_step (fun t q => XS.iconst W.at W.ex rfl (W.hb hd) q) K
theorem g_bipush (W : Owk p l e R s m args below meth c Z a0 EL L0 own nm bs ml rt T h SF k j) {i : Int} {v : Int32} (hd : decode bs pc = .ok (.bipush i, 2)) (hp : pc' = pc + 2) (hv : (Int8.ofInt i).toInt32 = v) (K : Ogo p l e R s m args below meth c Z a0 EL L0 own nm bs ml rt T (mkF m pc' ls (.int v :: st)) Q) : Ogo p l e R s m args below meth c Z a0 EL L0 own nm bs ml rt T (mkF m pc ls st) Q := by
  subst hp hv; exact own_step (fun t q => XS.bipush W.at W.ex rfl (W.hb hd) q) K
theorem g_sipush (W : Owk p l e R s m args below meth c Z a0 EL L0 own nm bs ml rt T h SF k j) {i : Int} {v : Int32} (hd : decode bs pc = .ok (.sipush i, 3)) (hp : pc' = pc + 3) (hv : (Int16.ofInt i).toInt32 = v) (K : Ogo p l e R s m args below meth c Z a0 EL L0 own nm bs ml rt T (mkF m pc' ls (.int v :: st)) Q) : Ogo p l e R s m args below meth c Z a0 EL L0 own nm bs ml rt T (mkF m pc ls st) Q := by
  subst hp hv; exact own_step (fun t q => XS.sipush W.at W.ex rfl (W.hb hd) q) K
theorem g_aconst_null (W : Owk p l e R s m args below meth c Z a0 EL L0 own nm bs ml rt T h SF k j) (hd : decode bs pc = .ok (.aconst_null, 1)) (hp : pc' = pc + 1) (K : Ogo p l e R s m args below meth c Z a0 EL L0 own nm bs ml rt T (mkF m pc' ls (.null :: st)) Q) : Ogo p l e R s m args below meth c Z a0 EL L0 own nm bs ml rt T (mkF m pc ls st) Q := by
  subst hp; exact own_step (fun t q => XS.aconstNull W.at W.ex rfl (W.hb hd) q) K
theorem g_istoreN (W : Owk p l e R s m args below meth c Z a0 EL L0 own nm bs ml rt T h SF k j) {i : Fin 4} {v : Int32} {ls' : Array Slot} (hd : decode bs pc = .ok (.istore_n i, 1)) (hp : pc' = pc + 1) (hl : storeLocals ls i.val (.int v) = some ls') (K : Ogo p l e R s m args below meth c Z a0 EL L0 own nm bs ml rt T (mkF m pc' ls' st) Q) : Ogo p l e R s m args below meth c Z a0 EL L0 own nm bs ml rt T (mkF m pc ls (.int v :: st)) Q := by
  subst hp; exact own_step (fun t q => XS.istoreN W.at W.ex rfl (W.hb hd) rfl hl q) K
theorem g_istore (W : Owk p l e R s m args below meth c Z a0 EL L0 own nm bs ml rt T h SF k j) {i : Nat} {v : Int32} {ls' : Array Slot} (hd : decode bs pc = .ok (.istore i, 2)) (hp : pc' = pc + 2) (hl : storeLocals ls i (.int v) = some ls') (K : Ogo p l e R s m args below meth c Z a0 EL L0 own nm bs ml rt T (mkF m pc' ls' st) Q) : Ogo p l e R s m args below meth c Z a0 EL L0 own nm bs ml rt T (mkF m pc ls (.int v :: st)) Q := by
  subst hp; exact own_step (fun t q => XS.istore W.at W.ex rfl (W.hb hd) rfl hl q) K
theorem g_astoreN (W : Owk p l e R s m args below meth c Z a0 EL L0 own nm bs ml rt T h SF k j) {i : Fin 4} {v : Value} {ls' : Array Slot} (hd : decode bs pc = .ok (.astore_n i, 1)) (hp : pc' = pc + 1) (hv : v.isRef = true) (hl : storeLocals ls i.val v = some ls') (K : Ogo p l e R s m args below meth c Z a0 EL L0 own nm bs ml rt T (mkF m pc' ls' st) Q) : Ogo p l e R s m args below meth c Z a0 EL L0 own nm bs ml rt T (mkF m pc ls (v :: st)) Q := by
  subst hp; exact own_step (fun t q => XS.astoreN W.at W.ex rfl (W.hb hd) rfl hv hl q) K
theorem g_astore (W : Owk p l e R s m args below meth c Z a0 EL L0 own nm bs ml rt T h SF k j) {i : Nat} {v : Value} {ls' : Array Slot} (hd : decode bs pc = .ok (.astore i, 2)) (hp : pc' = pc + 2) (hv : v.isRef = true) (hl : storeLocals ls i v = some ls') (K : Ogo p l e R s m args below meth c Z a0 EL L0 own nm bs ml rt T (mkF m pc' ls' st) Q) : Ogo p l e R s m args below meth c Z a0 EL L0 own nm bs ml rt T (mkF m pc ls (v :: st)) Q := by
  subst hp; exact own_step (fun t q => XS.astore W.at W.ex rfl (W.hb hd) rfl hv hl q) K
theorem g_iinc (W : Owk p l e R s m args below meth c Z a0 EL L0 own nm bs ml rt T h SF k j) {i : Nat} {d : Int} {x v : Int32} {ls' : Array Slot} (hd : decode bs pc = .ok (.iinc i d, 3)) (hp : pc' = pc + 3) (hl : ls[i]? = some (.val (.int x))) (hv : x + Int32.ofInt d = v) (hl' : storeLocals ls i (.int v) = some ls') (K : Ogo p l e R s m args below meth c Z a0 EL L0 own nm bs ml rt T (mkF m pc' ls' st) Q) : Ogo p l e R s m args below meth c Z a0 EL L0 own nm bs ml rt T (mkF m pc ls st) Q := by
  subst hp hv; exact own_step (fun t q => XS.iinc W.at W.ex rfl (W.hb hd) hl hl' q) K
theorem g_goto (W : Owk p l e R s m args below meth c Z a0 EL L0 own nm bs ml rt T h SF k j) {o : Int} (hd : decode bs pc = .ok (.goto o, 3)) (ho : 0 ≤ (pc : Int) + o) (hp : ((pc : Int) + o).toNat = pc') (K : Ogo p l e R s m args below meth c Z a0 EL L0 own nm bs ml rt T (mkF m pc' ls st) Q) : Ogo p l e R s m args below meth c Z a0 EL L0 own nm bs ml rt T (mkF m pc ls st) Q := by
  exact own_step (fun t q => XS.goto W.at W.ex rfl (pc0 := pc) rfl (W.hb hd) ho hp q) K
theorem g_dup (W : Owk p l e R s m args below meth c Z a0 EL L0 own nm bs ml rt T h SF k j) {x : Value} (hd : decode bs pc = .ok (.dup, 1)) (hp : pc' = pc + 1) (hc : x.category = 1) (K : Ogo p l e R s m args below meth c Z a0 EL L0 own nm bs ml rt T (mkF m pc' ls (x :: x :: st)) Q) : Ogo p l e R s m args below meth c Z a0 EL L0 own nm bs ml rt T (mkF m pc ls (x :: st)) Q := by
  subst hp; exact own_step (fun t q => XS.dup W.at W.ex rfl (W.hb hd) rfl hc q) K
theorem g_pop (W : Owk p l e R s m args below meth c Z a0 EL L0 own nm bs ml rt T h SF k j) {x : Value} (hd : decode bs pc = .ok (.pop, 1)) (hp : pc' = pc + 1) (hc : x.category = 1) (K : Ogo p l e R s m args below meth c Z a0 EL L0 own nm bs ml rt T (mkF m pc' ls st) Q) : Ogo p l e R s m args below meth c Z a0 EL L0 own nm bs ml rt T (mkF m pc ls (x :: st)) Q := by
  subst hp; exact own_step (fun t q => XT.pop W.at W.ex rfl (W.hb hd) rfl hc q) K
theorem g_iadd (W : Owk p l e R s m args below meth c Z a0 EL L0 own nm bs ml rt T h SF k j) {x y : Int32} (hd : decode bs pc = .ok (.iadd, 1)) (hp : pc' = pc + 1) (K : Ogo p l e R s m args below meth c Z a0 EL L0 own nm bs ml rt T (mkF m pc' ls (.int (x + y) :: st)) Q) : Ogo p l e R s m args below meth c Z a0 EL L0 own nm bs ml rt T (mkF m pc ls (.int y :: .int x :: st)) Q := by
  subst hp; exact own_step (fun t q => XS.iadd W.at W.ex rfl (W.hb hd) rfl q) K
theorem g_isub (W : Owk p l e R s m args below meth c Z a0 EL L0 own nm bs ml rt T h SF k j) {x y : Int32} (hd : decode bs pc = .ok (.isub, 1)) (hp : pc' = pc + 1) (K : Ogo p l e R s m args below meth c Z a0 EL L0 own nm bs ml rt T (mkF m pc' ls (.int (x - y) :: st)) Q) : Ogo p l e R s m args below meth c Z a0 EL L0 own nm bs ml rt T (mkF m pc ls (.int y :: .int x :: st)) Q := by
  subst hp; exact own_step (fun t q => XS.isub W.at W.ex rfl (W.hb hd) rfl q) K
theorem g_iand (W : Owk p l e R s m args below meth c Z a0 EL L0 own nm bs ml rt T h SF k j) {x y : Int32} (hd : decode bs pc = .ok (.iand, 1)) (hp : pc' = pc + 1) (K : Ogo p l e R s m args below meth c Z a0 EL L0 own nm bs ml rt T (mkF m pc' ls (.int (x &&& y) :: st)) Q) : Ogo p l e R s m args below meth c Z a0 EL L0 own nm bs ml rt T (mkF m pc ls (.int y :: .int x :: st)) Q := by
  subst hp; exact own_step (fun t q => XS.iand W.at W.ex rfl (W.hb hd) rfl q) K
theorem g_ior (W : Owk p l e R s m args below meth c Z a0 EL L0 own nm bs ml rt T h SF k j) {x y : Int32} (hd : decode bs pc = .ok (.ior, 1)) (hp : pc' = pc + 1) (K : Ogo p l e R s m args below meth c Z a0 EL L0 own nm bs ml rt T (mkF m pc' ls (.int (x ||| y) :: st)) Q) : Ogo p l e R s m args below meth c Z a0 EL L0 own nm bs ml rt T (mkF m pc ls (.int y :: .int x :: st)) Q := by
  subst hp; exact own_step (fun t q => XT.ior W.at W.ex rfl (W.hb hd) rfl q) K
theorem g_imul (W : Owk p l e R s m args below meth c Z a0 EL L0 own nm bs ml rt T h SF k j) {x y : Int32} (hd : decode bs pc = .ok (.imul, 1)) (hp : pc' = pc + 1) (K : Ogo p l e R s m args below meth c Z a0 EL L0 own nm bs ml rt T (mkF m pc' ls (.int (x * y) :: st)) Q) : Ogo p l e R s m args below meth c Z a0 EL L0 own nm bs ml rt T (mkF m pc ls (.int y :: .int x :: st)) Q := by
  subst hp; exact own_step (fun t q => XS.imul W.at W.ex rfl (W.hb hd) rfl q) K
theorem g_ishl (W : Owk p l e R s m args below meth c Z a0 EL L0 own nm bs ml rt T h SF k j) {x y : Int32} (hd : decode bs pc = .ok (.ishl, 1)) (hp : pc' = pc + 1) (K : Ogo p l e R s m args below meth c Z a0 EL L0 own nm bs ml rt T (mkF m pc' ls (.int (x <<< (y &&& 31)) :: st)) Q) : Ogo p l e R s m args below meth c Z a0 EL L0 own nm bs ml rt T (mkF m pc ls (.int y :: .int x :: st)) Q := by
  subst hp; exact own_step (fun t q => XT.ishl W.at W.ex rfl (W.hb hd) rfl q) K
theorem g_ishr (W : Owk p l e R s m args below meth c Z a0 EL L0 own nm bs ml rt T h SF k j) {x y : Int32} (hd : decode bs pc = .ok (.ishr, 1)) (hp : pc' = pc + 1) (K : Ogo p l e R s m args below meth c Z a0 EL L0 own nm bs ml rt T (mkF m pc' ls (.int (x >>> (y &&& 31)) :: st)) Q) : Ogo p l e R s m args below meth c Z a0 EL L0 own nm bs ml rt T (mkF m pc ls (.int y :: .int x :: st)) Q := by
  subst hp; exact own_step (fun t q => XT.ishr W.at W.ex rfl (W.hb hd) rfl q) K
theorem g_iushr (W : Owk p l e R s m args below meth c Z a0 EL L0 own nm bs ml rt T h SF k j) {x y : Int32} (hd : decode bs pc = .ok (.iushr, 1)) (hp : pc' = pc + 1) (K : Ogo p l e R s m args below meth c Z a0 EL L0 own nm bs ml rt T (mkF m pc' ls (.int (XT.ushr x y) :: st)) Q) : Ogo p l e R s m args below meth c Z a0 EL L0 own nm bs ml rt T (mkF m pc ls (.int y :: .int x :: st)) Q := by
  subst hp; exact own_step (fun t q => XT.iushr W.at W.ex rfl (W.hb hd) rfl q) K
theorem g_irem (W : Owk p l e R s m args below meth c Z a0 EL L0 own nm bs ml rt T h SF k j) {x y : Int32} (hd : decode bs pc = .ok (.irem, 1)) (hp : pc' = pc + 1) (hy : y ≠ 0) (K : Ogo p l e R s m args below meth c Z a0 EL L0 own nm bs ml rt T (mkF m pc' ls (.int (x % y) :: st)) Q) : Ogo p l e R s m args below meth c Z a0 EL L0 own nm bs ml rt T (mkF m pc ls (.int y :: .int x :: st)) Q := by
  obtain ⟨-, -, -, -, -, vm0, k0, X, -⟩ := id W
  subst hp; exact own_step (fun t q => iremM X W.ex rfl (W.hb hd) rfl hy q) K
theorem g_i2b (W : Owk p l e R s m args below meth c Z a0 EL L0 own nm bs ml rt T h SF k j) {x : Int32} (hd : decode bs pc = .ok (.i2b, 1)) (hp : pc' = pc + 1) (K : Ogo p l e R s m args below meth c Z a0 EL L0 own nm bs ml rt T (mkF m pc' ls (.int x.toInt8.toInt32 :: st)) Q) : Ogo p l e R s m args below meth c Z a0 EL L0 own nm bs ml rt T (mkF m pc ls (.int x :: st)) Q := by
  subst hp; exact own_step (fun t q => XT.i2b W.at W.ex rfl (W.hb hd) rfl q) K
theorem g_i2c (W : Owk p l e R s m args below meth c Z a0 EL L0 own nm bs ml rt T h SF k j) {x : Int32} (hd : decode bs pc = .ok (.i2c, 1)) (hp : pc' = pc + 1) (K : Ogo p l e R s m args below meth c Z a0 EL L0 own nm bs ml rt T (mkF m pc' ls (.int x.toUInt32.toUInt16.toUInt32.toInt32 :: st)) Q) : Ogo p l e R s m args below meth c Z a0 EL L0 own nm bs ml rt T (mkF m pc ls (.int x :: st)) Q := by
  subst hp; exact own_step (fun t q => XT.i2c W.at W.ex rfl (W.hb hd) rfl q) K
theorem g_ifY (W : Owk p l e R s m args below meth c Z a0 EL L0 own nm bs ml rt T h SF k j) {cd : ClassFile.Cond} {x : Int32} {o : Int} (hd : decode bs pc = .ok (.ifCond cd o, 3)) (hc : if_icmp.holds cd x 0 = true) (ho : 0 ≤ (pc : Int) + o) (hp : ((pc : Int) + o).toNat = pc') (K : Ogo p l e R s m args below meth c Z a0 EL L0 own nm bs ml rt T (mkF m pc' ls st) Q) : Ogo p l e R s m args below meth c Z a0 EL L0 own nm bs ml rt T (mkF m pc ls (.int x :: st)) Q := by
  exact own_step (fun t q => XS.ifYes W.at W.ex rfl (pc0 := pc) rfl (W.hb hd) rfl (by rw [if0]; exact hc) ho hp q) K
theorem g_ifN (W : Owk p l e R s m args below meth c Z a0 EL L0 own nm bs ml rt T h SF k j) {cd : ClassFile.Cond} {x : Int32} {o : Int} (hd : decode bs pc = .ok (.ifCond cd o, 3)) (hc : if_icmp.holds cd x 0 = false) (hp : pc' = pc + 3) (K : Ogo p l e R s m args below meth c Z a0 EL L0 own nm bs ml rt T (mkF m pc' ls st) Q) : Ogo p l e R s m args below meth c Z a0 EL L0 own nm bs ml rt T (mkF m pc ls (.int x :: st)) Q := by
  subst hp; exact own_step (fun t q => XS.ifNo W.at W.ex rfl (W.hb hd) rfl (by rw [if0]; exact hc) q) K
theorem g_icY (W : Owk p l e R s m args below meth c Z a0 EL L0 own nm bs ml rt T h SF k j) {cd : ClassFile.Cond} {x y : Int32} {o : Int} (hd : decode bs pc = .ok (.if_icmp cd o, 3)) (hc : if_icmp.holds cd x y = true) (ho : 0 ≤ (pc : Int) + o) (hp : ((pc : Int) + o).toNat = pc') (K : Ogo p l e R s m args below meth c Z a0 EL L0 own nm bs ml rt T (mkF m pc' ls st) Q) : Ogo p l e R s m args below meth c Z a0 EL L0 own nm bs ml rt T (mkF m pc ls (.int y :: .int x :: st)) Q := by
  exact own_step (fun t q => XS.icmpYes W.at W.ex rfl (pc0 := pc) rfl (W.hb hd) rfl hc ho hp q) K
theorem g_icN (W : Owk p l e R s m args below meth c Z a0 EL L0 own nm bs ml rt T h SF k j) {cd : ClassFile.Cond} {x y : Int32} {o : Int} (hd : decode bs pc = .ok (.if_icmp cd o, 3)) (hc : if_icmp.holds cd x y = false) (hp : pc' = pc + 3) (K : Ogo p l e R s m args below meth c Z a0 EL L0 own nm bs ml rt T (mkF m pc' ls st) Q) : Ogo p l e R s m args below meth c Z a0 EL L0 own nm bs ml rt T (mkF m pc ls (.int y :: .int x :: st)) Q := by
  subst hp; exact own_step (fun t q => XS.icmpNo W.at W.ex rfl (W.hb hd) rfl hc q) K
theorem g_nullY (W : Owk p l e R s m args below meth c Z a0 EL L0 own nm bs ml rt T h SF k j) {o : Int} (hd : decode bs pc = .ok (.ifnull o, 3)) (ho : 0 ≤ (pc : Int) + o) (hp : ((pc : Int) + o).toNat = pc') (K : Ogo p l e R s m args below meth c Z a0 EL L0 own nm bs ml rt T (mkF m pc' ls st) Q) : Ogo p l e R s m args below meth c Z a0 EL L0 own nm bs ml rt T (mkF m pc ls (.null :: st)) Q := by
  exact own_step (fun t q => XS.ifnullYes W.at W.ex rfl (pc0 := pc) rfl (W.hb hd) rfl ho hp q) K
theorem g_nullN (W : Owk p l e R s m args below meth c Z a0 EL L0 own nm bs ml rt T h SF k j) {b : Addr} {o : Int} (hd : decode bs pc = .ok (.ifnull o, 3)) (hp : pc' = pc + 3) (K : Ogo p l e R s m args below meth c Z a0 EL L0 own nm bs ml rt T (mkF m pc' ls st) Q) : Ogo p l e R s m args below meth c Z a0 EL L0 own nm bs ml rt T (mkF m pc ls (.ref b :: st)) Q := by
  subst hp; exact own_step (fun t q => XS.ifnullNo W.at W.ex rfl (W.hb hd) rfl q) K
theorem g_nnY (W : Owk p l e R s m args below meth c Z a0 EL L0 own nm bs ml rt T h SF k j) {b : Addr} {o : Int} (hd : decode bs pc = .ok (.ifnonnull o, 3)) (ho : 0 ≤ (pc : Int) + o) (hp : ((pc : Int) + o).toNat = pc') (K : Ogo p l e R s m args below meth c Z a0 EL L0 own nm bs ml rt T (mkF m pc' ls st) Q) : Ogo p l e R s m args below meth c Z a0 EL L0 own nm bs ml rt T (mkF m pc ls (.ref b :: st)) Q := by
  exact own_step (fun t q => XT.ifnonnullYes W.at W.ex rfl (pc0 := pc) rfl (W.hb hd) rfl ho hp q) K
theorem g_nnN (W : Owk p l e R s m args below meth c Z a0 EL L0 own nm bs ml rt T h SF k j) {o : Int} (hd : decode bs pc = .ok (.ifnonnull o, 3)) (hp : pc' = pc + 3) (K : Ogo p l e R s m args below meth c Z a0 EL L0 own nm bs ml rt T (mkF m pc' ls st) Q) : Ogo p l e R s m args below meth c Z a0 EL L0 own nm bs ml rt T (mkF m pc ls (.null :: st)) Q := by
  subst hp; exact own_step (fun t q => XT.ifnonnullNo W.at W.ex rfl (W.hb hd) rfl q) K
theorem g_acY (W : Owk p l e R s m args below meth c Z a0 EL L0 own nm bs ml rt T h SF k j) {cd : ClassFile.ACond} {x y : Value} {o : Int} (hd : decode bs pc = .ok (.if_acmp cd o, 3)) (h1 : x.isRef = true) (h2 : y.isRef = true) (hc : XT.acmp cd x y = true) (ho : 0 ≤ (pc : Int) + o) (hp : ((pc : Int) + o).toNat = pc') (K : Ogo p l e R s m args below meth c Z a0 EL L0 own nm bs ml rt T (mkF m pc' ls st) Q) : Ogo p l e R s m args below meth c Z a0 EL L0 own nm bs ml rt T (mkF m pc ls (y :: x :: st)) Q := by
  exact own_step (fun t q => XT.acmpYes W.at W.ex rfl (pc0 := pc) rfl (W.hb hd) rfl h1 h2 hc ho hp q) K
theorem g_acN (W : Owk p l e R s m args below meth c Z a0 EL L0 own nm bs ml rt T h SF k j) {cd : ClassFile.ACond} {x y : Value} {o : Int} (hd : decode bs pc = .ok (.if_acmp cd o, 3)) (h1 : x.isRef = true) (h2 : y.isRef = true) (hc : XT.acmp cd x y = false) (hp : pc' = pc + 3) (K : Ogo p l e R s m args below meth c Z a0 EL L0 own nm bs ml rt T (mkF m pc' ls st) Q) : Ogo p l e R s m args below meth c Z a0 EL L0 own nm bs ml rt T (mkF m pc ls (y :: x :: st)) Q := by
  subst hp; exact own_step (fun t q => XT.acmpNo W.at W.ex rfl (W.hb hd) rfl h1 h2 hc q) K
end Plain
/-! steps that read or write the heap or the tables -/
theorem Owk.fc (W : Owk p l e R s m args below meth c Z a0 EL L0 own nm bs ml rt T h SF k j) {vm0 : Vm} {k0 : Nat} (hS : s.Since vm0 k0) : vm0.findClass own = some m.cls := by rw [hS.1.alike.findClass]; exact W.1.2.2.1
theorem own_same (W : Owk p l e R s m args below meth c Z a0 EL L0 own nm bs ml rt T h SF k j) {g g2 : JFrame}
    (f : ∀ vm0, Stand p l e R (s.setVm vm0) m args below meth c T L0 k j → Z.Warmed39 vm0 → vm0.findClass own = some m.cls → ∃ T', Stand p l e R (s.setVm vm0) m args below meth c T' L0 k j ∧ T'.heap = h ∧ ∀ t, Steps p.tables e below (T'.setTop g2) t → Steps p.tables e below (T.setTop g) t)
    (K : ∀ T', Owk p l e R s m args below meth c Z a0 EL L0 own nm bs ml rt T' h SF k j → Ogo p l e R s m args below meth c Z a0 EL L0 own nm bs ml rt T' g2 Q) : Ogo p l e R s m args below meth c Z a0 EL L0 own nm bs ml rt T g Q := by
  obtain ⟨w1, w2, w3, w4, w5, vm0, k0, X, w6, w7, w8, w9, w10⟩ := id W
  obtain ⟨T', X', e', st⟩ := f vm0 X w6 (W.fc w7)
  exact own_step st (K T' ⟨w1, e', w3, w4, w5, vm0, k0, X', w6, w7, w8, w9, w10⟩)
theorem own_here (W : Owk p l e R s m args below meth c Z a0 EL L0 own nm bs ml rt T h SF k j) {g g2 : JFrame}
    (f : ∀ vm0, Stand p l e R (s.setVm vm0) m args below meth c T L0 k j → Z.Warmed39 vm0 → vm0.findClass own = some m.cls → ∀ t, Steps p.tables e below (T.setTop g2) t → Steps p.tables e below (T.setTop g) t)
    (K : Ogo p l e R s m args below meth c Z a0 EL L0 own nm bs ml rt T g2 Q) : Ogo p l e R s m args below meth c Z a0 EL L0 own nm bs ml rt T g Q := by
  obtain ⟨w1, w2, w3, w4, w5, vm0, k0, X, w6, w7, w8, w9, w10⟩ := id W
  exact own_step (f vm0 X w6 (W.fc w7)) K
theorem own_wr (W : Owk p l e R s m args below meth c Z a0 EL L0 own nm bs ml rt T h SF k j) {g g2 : JFrame} {a : Addr} {sl : Nat} {v : Value} (hS : a ∈ SF) (hL : (⟨a, sl⟩ : Loc) ∈ L0 ∨ s.heap.size ≤ a)
    (f : ∀ vm0, Stand p l e R (s.setVm vm0) m args below meth c T L0 k j → Z.Warmed39 vm0 → vm0.findClass own = some m.cls → ∃ T' h', Stand p l e R (s.setVm vm0) m args below meth c T' (L0 ++ [⟨a, sl⟩]) k j ∧ T'.heap = h' ∧ Wr h h' a sl v ∧ ∀ t, Steps p.tables e below (T'.setTop g2) t → Steps p.tables e below (T.setTop g) t)
    (K : ∀ T' h', Wr h h' a sl v → Owk p l e R s m args below meth c Z a0 EL L0 own nm bs ml rt T' h' SF k j → Ogo p l e R s m args below meth c Z a0 EL L0 own nm bs ml rt T' g2 Q) : Ogo p l e R s m args below meth c Z a0 EL L0 own nm bs ml rt T g Q := by
  obtain ⟨w1, w2, w3, w4, w5, vm0, k0, X, w6, w7, w8, w9, w10⟩ := id W
  obtain ⟨T', h', X', e', Wr', st⟩ := f vm0 X w6 (W.fc w7)
  have X2 := X'.sift (L' := L0) (fun x hx => by
    rcases List.mem_append.mp hx with q | q
    · exact Or.inl q
    · cases List.mem_singleton.mp q; exact hL)
  refine own_step st (K T' h' Wr' ⟨w1, e', fun x hx => by rw [Wr'.size]; exact w3 x hx, w4, w5, vm0, k0, X2, w6, w7, by rw [Wr'.size]; exact w8, w9.trans (CHr.wr Wr' (w10 a hS) w9.1), fun x hx => Safe.wr Wr' (w10 a hS) w9.1 (w10 x hx)⟩)
theorem g_getF (W : Owk p l e R s m args below meth c Z a0 EL L0 own nm bs ml rt T h SF k j) {pc pc' idx : Nat} {ls : Array Slot} {st : List Value} {O n d : String} {a : Addr} {v : Value} (hd : decode bs pc = .ok (.getfield idx, 3)) (hp : pc' = pc + 3) (w : (Cond.fieldLink own idx O n d).before a0 Z = true) (F : Fld Z h a O n d v)
    (K : ∀ T', Owk p l e R s m args below meth c Z a0 EL L0 own nm bs ml rt T' h SF k j → Ogo p l e R s m args below meth c Z a0 EL L0 own nm bs ml rt T' (mkF m pc' ls (v :: st)) Q) : Ogo p l e R s m args below meth c Z a0 EL L0 own nm bs ml rt T (mkF m pc ls (.ref a :: st)) Q := by
  subst hp; exact own_same W (fun vm0 X hZ ho => getF X W.ex hZ ho (host := "") (Or.inl w) Via.refl W.2.1 F (g := mkF m pc ls (.ref a :: st)) rfl rfl (W.hb hd)) K
theorem g_getS (W : Owk p l e R s m args below meth c Z a0 EL L0 own nm bs ml rt T h SF k j) {pc pc' idx : Nat} {ls : Array Slot} {st : List Value} {O n d : String} {v : Value} (hd : decode bs pc = .ok (.getstatic idx, 3)) (hp : pc' = pc + 3) (w : (Cond.fieldLink own idx O n d).before a0 Z = true) (F : Sta Z h O n d v)
    (K : ∀ T', Owk p l e R s m args below meth c Z a0 EL L0 own nm bs ml rt T' h SF k j → Ogo p l e R s m args below meth c Z a0 EL L0 own nm bs ml rt T' (mkF m pc' ls (v :: st)) Q) : Ogo p l e R s m args below meth c Z a0 EL L0 own nm bs ml rt T (mkF m pc ls st) Q := by
  subst hp; exact own_same W (fun vm0 X hZ ho => getS X W.ex hZ ho (host := "") w Via.refl W.2.1 F (g := mkF m pc ls st) rfl (W.hb hd)) K
theorem g_ldcI (W : Owk p l e R s m args below meth c Z a0 EL L0 own nm bs ml rt T h SF k j) {pc pc' idx : Nat} {ls : Array Slot} {st : List Value} {v : Int32} (hd : decode bs pc = .ok (.ldc idx, 2)) (hp : pc' = pc + 2) (w : (Cond.constant own idx v).before a0 Z = true)
    (K : Ogo p l e R s m args below meth c Z a0 EL L0 own nm bs ml rt T (mkF m pc' ls (.int v :: st)) Q) : Ogo p l e R s m args below meth c Z a0 EL L0 own nm bs ml rt T (mkF m pc ls st) Q := by
  subst hp; exact own_here W (fun vm0 X hZ ho => X.ldcInt W.ex ho (mvT (s := s.setVm vm0) hZ w) (g := mkF m pc ls st) rfl (W.hb hd)) K
theorem g_cast (W : Owk p l e R s m args below meth c Z a0 EL L0 own nm bs ml rt T h SF k j) {pc pc' idx : Nat} {ls : Array Slot} {st : List Value} {C : String} {a : Addr} (hd : decode bs pc = .ok (.checkcast idx, 3)) (hp : pc' = pc + 3) (w : (Cond.classLink own idx C).before a0 Z = true) (F : Ins Z h a C true)
    (K : ∀ T', Owk p l e R s m args below meth c Z a0 EL L0 own nm bs ml rt T' h SF k j → Ogo p l e R s m args below meth c Z a0 EL L0 own nm bs ml rt T' (mkF m pc' ls (.ref a :: st)) Q) : Ogo p l e R s m args below meth c Z a0 EL L0 own nm bs ml rt T (mkF m pc ls (.ref a :: st)) Q := by
  subst hp; exact own_same W (fun vm0 X hZ ho => castY X W.ex hZ ho w W.2.1 F (g := mkF m pc ls (.ref a :: st)) rfl rfl (W.hb hd)) K
theorem g_inst (W : Owk p l e R s m args below meth c Z a0 EL L0 own nm bs ml rt T h SF k j) {pc pc' idx : Nat} {ls : Array Slot} {st : List Value} {C : String} {a : Addr} (hd : decode bs pc = .ok (.instanceof idx, 3)) (hp : pc' = pc + 3) (w : (Cond.classLink own idx C).before a0 Z = true) (F : Ins Z h a C true)
    (K : ∀ T', Owk p l e R s m args below meth c Z a0 EL L0 own nm bs ml rt T' h SF k j → Ogo p l e R s m args below meth c Z a0 EL L0 own nm bs ml rt T' (mkF m pc' ls (.int 1 :: st)) Q) : Ogo p l e R s m args below meth c Z a0 EL L0 own nm bs ml rt T (mkF m pc ls (.ref a :: st)) Q := by
  subst hp; exact own_same W (fun vm0 X hZ ho => instY X W.ex hZ ho w W.2.1 F (g := mkF m pc ls (.ref a :: st)) rfl rfl (W.hb hd)) K
theorem g_new (W : Owk p l e R s m args below meth c Z a0 EL L0 own nm bs ml rt T h SF k j) {pc pc' idx n : Nat} {ls : Array Slot} {st : List Value} {C : String} (hd : decode bs pc = .ok (.new idx, 3)) (hp : pc' = pc + 3) (w : (Cond.classLink own idx C).before a0 Z = true) (wi : (Cond.instantiable C n).before a0 Z = true) (wz : (Cond.initialized C).before a0 Z = true) (hc : k + 1 ≤ R.cells) (hl : j + n ≤ R.slots)
    (K : ∀ T' h', Ext h h' → Exa Z h' h.size C → (∀ {O nm d : String} {ty : FieldType}, Laid Z a0 C O nm d → parseFieldDescriptor d = some ty → Fld Z h' h.size O nm d (defaultValue ty)) → Unt h' h.size → Owk p l e R s m args below meth c Z a0 EL L0 own nm bs ml rt T' h' (h.size :: SF) (k + 1) (j + n) → Ogo p l e R s m args below meth c Z a0 EL L0 own nm bs ml rt T' (mkF m pc' ls (.ref h.size :: st)) Q) : Ogo p l e R s m args below meth c Z a0 EL L0 own nm bs ml rt T (mkF m pc ls st) Q := by
  subst hp
  obtain ⟨w1, w2, w3, w4, w5, vm0, k0, X, w6, w7, w8, w9, w10⟩ := id W
  obtain ⟨T', h', X', e', E, A, D, U, st'⟩ := newO X W.ex w6 (W.fc w7) w wi wz w2 (g := mkF m pc ls st) rfl (W.hb hd) hc hl
  refine own_step st' (K T' h' E A D U ⟨w1, e', fun x hx => ?_, hc, hl, vm0, k0, X', w6, w7, Nat.le_trans w8 E.1, w9.trans (CHr.ext E w9.1), fun x hx => ?_⟩)
  · rcases List.mem_cons.mp hx with rfl | q
    · exact A.lt
    · exact Nat.lt_of_lt_of_le (w3 x q) E.1
  · rcases List.mem_cons.mp hx with rfl | q
    · exact (Safe.new (Nat.le_refl _)).ext E w9.1
    · exact (w10 x q).ext E w9.1
theorem g_newP (W : Owk p l e R s m args below meth c Z a0 EL L0 own nm bs ml rt T h SF k j) {pc pc' : Nat} {ls : Array Slot} {st : List Value} {aty : ArrayType} {ty : FieldType} {dv : Value} {n : Int32} {cap : Nat} (hd : decode bs pc = .ok (.newarray aty, 2)) (hp : pc' = pc + 2) (hty : newarray.typeOf aty = ty) (hdv : defaultValue ty = dv) (w : (Cond.arrayClass ty).before a0 Z = true) (hn : ¬ n < 0) (hcap : n.toNatClampNeg ≤ cap) (hb : cap * 8 ≤ 536870912) (hc : k + 1 ≤ R.cells) (hl : j + cap ≤ R.slots)
    (K : ∀ T' h' cA, Ext h h' → Arv Z h' h.size cA ty n [] dv → Owk p l e R s m args below meth c Z a0 EL L0 own nm bs ml rt T' h' (h.size :: SF) (k + 1) (j + cap) → Ogo p l e R s m args below meth c Z a0 EL L0 own nm bs ml rt T' (mkF m pc' ls (.ref h.size :: st)) Q) : Ogo p l e R s m args below meth c Z a0 EL L0 own nm bs ml rt T (mkF m pc ls (.int n :: st)) Q := by
  subst hp hty hdv
  obtain ⟨w1, w2, w3, w4, w5, vm0, k0, X, w6, w7, w8, w9, w10⟩ := id W
  obtain ⟨T', h', cA, X', e', E, A, st'⟩ := newP X W.ex w6 w w2 (g := mkF m pc ls (.int n :: st)) rfl (W.hb hd) rfl hn hcap hb hc hl
  have V := Arv.new A hn
  refine own_step st' (K T' h' cA E V ⟨w1, e', fun x hx => ?_, hc, hl, vm0, k0, X', w6, w7, Nat.le_trans w8 E.1, w9.trans (CHr.ext E w9.1), fun x hx => ?_⟩)
  · rcases List.mem_cons.mp hx with rfl | q
    · exact V.lt
    · exact Nat.lt_of_lt_of_le (w3 x q) E.1
  · rcases List.mem_cons.mp hx with rfl | q
    · exact (Safe.new (Nat.le_refl _)).ext E w9.1
    · exact (w10 x q).ext E w9.1
theorem g_putF (W : Owk p l e R s m args below meth c Z a0 EL L0 own nm bs ml rt T h SF k j) {pc pc' idx kk : Nat} {ls : Array Slot} {st : List Value} {O n d C : String} {ty : FieldType} {a : Addr} {v old : Value} (hd : decode bs pc = .ok (.putfield idx, 3)) (hp : pc' = pc + 3) (w : (Cond.fieldLink own idx O n d).before a0 Z = true) (F : Fld Z h a O n d old) (E : Exa Z h a C) (L : (Cond.lays C O n d).before a0 Z = true ∨ ((Cond.laysFinal C O n d).before a0 Z = true ∧ own = O ∧ nm = "<init>")) (wi : (Cond.instantiable C kk).before a0 Z = true)
    (hty : parseFieldDescriptor d = some ty) (hn : narrow ty v = v) (hf : fits ty v = true) (hS : a ∈ SF) (hL : (⟨a, RoadKit.slotOf Z O n d⟩ : Loc) ∈ L0 ∨ s.heap.size ≤ a)
    (K : ∀ T' h', Wr h h' a (RoadKit.slotOf Z O n d) v → Owk p l e R s m args below meth c Z a0 EL L0 own nm bs ml rt T' h' SF k j → Ogo p l e R s m args below meth c Z a0 EL L0 own nm bs ml rt T' (mkF m pc' ls st) Q) : Ogo p l e R s m args below meth c Z a0 EL L0 own nm bs ml rt T (mkF m pc ls (v :: .ref a :: st)) Q := by
  subst hp
  have hnm := W.1.2.2.2.2.2.2.2
  exact own_wr W hS hL (fun vm0 X hZ ho => putF X W.ex hZ ho (host := "") (Or.inl w) Via.refl W.2.1 F E (L.imp id fun q => ⟨q.1, q.2.1, hnm.trans q.2.2⟩) wi hty hn hf (g := mkF m pc ls (v :: .ref a :: st)) rfl rfl (W.hb hd)) K
theorem own_idx {N jj : Int32} {i : Nat} (hN : ¬ N < 0) (hj : jj = Int32.ofNat i) (hi : i < N.toNatClampNeg) : ¬ jj < 0 ∧ jj.toNatClampNeg = i := by
  have q : N.toNatClampNeg < 2 ^ 31 := (back32 hN).2
  have e : jj.toInt = i := by rw [hj]; exact Int32.toInt_ofNat_of_lt (by omega)
  refine ⟨fun z => ?_, ?_⟩
  · rw [Int32.lt_iff_toInt_lt, e] at z
    have : (0 : Int32).toInt = 0 := rfl
    omega
  · show jj.toInt.toNat = i
    rw [e]; rfl
theorem g_alen (W : Owk p l e R s m args below meth c Z a0 EL L0 own nm bs ml rt T h SF k j) {pc pc' : Nat} {ls : Array Slot} {st : List Value} {a : Addr} {kC : ClassId} {ty : FieldType} {N : Int32} {vs : List Value} {dv : Value} (hd : decode bs pc = .ok (.arraylength, 1)) (hp : pc' = pc + 1) (A : Arv Z h a kC ty N vs dv)
    (K : Ogo p l e R s m args below meth c Z a0 EL L0 own nm bs ml rt T (mkF m pc' ls (.int N :: st)) Q) : Ogo p l e R s m args below meth c Z a0 EL L0 own nm bs ml rt T (mkF m pc ls (.ref a :: st)) Q := by
  subst hp
  obtain ⟨cl, A1, A2, A3, A4, A5, A6⟩ := A
  refine own_here W (fun vm0 X hZ ho t q => X.arraylength W.ex (by rw [W.2.1]; exact A1.1) (State.isArrayOf_alike hZ.alike A1.2.1) (g := mkF m pc ls (.ref a :: st)) rfl rfl (W.hb hd) t ?_) K
  rw [len_of A3 A4]; exact q
theorem g_caload (W : Owk p l e R s m args below meth c Z a0 EL L0 own nm bs ml rt T h SF k j) {pc pc' : Nat} {ls : Array Slot} {st : List Value} {a : Addr} {kC : ClassId} {N jj : Int32} {vs : List Value} {dv v : Value} (hd : decode bs pc = .ok (.caload, 1)) (hp : pc' = pc + 1) (A : Arv Z h a kC .char N vs dv) {i : Nat} (hj : jj = Int32.ofNat i) (hi : i < N.toNatClampNeg) (hv : vs.getD i dv = v)
    (K : Ogo p l e R s m args below meth c Z a0 EL L0 own nm bs ml rt T (mkF m pc' ls (v :: st)) Q) : Ogo p l e R s m args below meth c Z a0 EL L0 own nm bs ml rt T (mkF m pc ls (.int jj :: .ref a :: st)) Q := by
  subst hp
  obtain ⟨cl, A1, A2, A3, A4, A5, A6⟩ := A
  obtain ⟨q1, q2⟩ := own_idx A4 hj hi
  exact own_here W (fun vm0 X hZ ho t q => X.caload W.ex (v := v) (by rw [W.2.1]; exact A1.1) (State.isArrayOf_alike hZ.alike A1.2.1) A1.2.2 (by rw [q2, A3]; intro z; rcases z with z | z; exact q1 z; omega) (by rw [q2, A5 i (by omega), hv]) (g := mkF m pc ls (.int jj :: .ref a :: st)) rfl rfl (W.hb hd) t q) K
theorem g_baload (W : Owk p l e R s m args below meth c Z a0 EL L0 own nm bs ml rt T h SF k j) {pc pc' : Nat} {ls : Array Slot} {st : List Value} {a : Addr} {kC : ClassId} {N jj : Int32} {vs : List Value} {dv v : Value} (hd : decode bs pc = .ok (.baload, 1)) (hp : pc' = pc + 1) (A : Arv Z h a kC .byte N vs dv) {i : Nat} (hj : jj = Int32.ofNat i) (hi : i < N.toNatClampNeg) (hv : vs.getD i dv = v)
    (K : Ogo p l e R s m args below meth c Z a0 EL L0 own nm bs ml rt T (mkF m pc' ls (v :: st)) Q) : Ogo p l e R s m args below meth c Z a0 EL L0 own nm bs ml rt T (mkF m pc ls (.int jj :: .ref a :: st)) Q := by
  subst hp
  obtain ⟨cl, A1, A2, A3, A4, A5, A6⟩ := A
  obtain ⟨q1, q2⟩ := own_idx A4 hj hi
  exact own_here W (fun vm0 X hZ ho t q => X.baloadBytes W.ex (v := v) (by rw [W.2.1]; exact A1.1) (State.isArrayOf_alike hZ.alike A1.2.1) A1.2.2 (by rw [q2, A3]; intro z; rcases z with z | z; exact q1 z; omega) (by rw [q2, A5 i (by omega), hv]) (g := mkF m pc ls (.int jj :: .ref a :: st)) rfl rfl (W.hb hd) t q) K
theorem g_aaload (W : Owk p l e R s m args below meth c Z a0 EL L0 own nm bs ml rt T h SF k j) {pc pc' : Nat} {ls : Array Slot} {st : List Value} {a : Addr} {kC : ClassId} {ty : FieldType} {N jj : Int32} {vs : List Value} {dv v : Value} (hd : decode bs pc = .ok (.aaload, 1)) (hp : pc' = pc + 1) (A : Arv Z h a kC ty N vs dv) (hr : ty.isReference = true) {i : Nat} (hj : jj = Int32.ofNat i) (hi : i < N.toNatClampNeg) (hv : vs.getD i dv = v)
    (K : Ogo p l e R s m args below meth c Z a0 EL L0 own nm bs ml rt T (mkF m pc' ls (v :: st)) Q) : Ogo p l e R s m args below meth c Z a0 EL L0 own nm bs ml rt T (mkF m pc ls (.int jj :: .ref a :: st)) Q := by
  subst hp
  obtain ⟨cl, A1, A2, A3, A4, A5, A6⟩ := A
  obtain ⟨q1, q2⟩ := own_idx A4 hj hi
  exact own_here W (fun vm0 X hZ ho t q => X.aaload W.ex (v := v) (by rw [W.2.1]; exact A1.1) (State.isArrayOf_alike hZ.alike A1.2.1) hr A1.2.2 (by rw [q2, A3]; intro z; rcases z with z | z; exact q1 z; omega) (by rw [q2, A5 i (by omega), hv]) (g := mkF m pc ls (.int jj :: .ref a :: st)) rfl rfl (W.hb hd) t q) K
theorem g_castore (W : Owk p l e R s m args below meth c Z a0 EL L0 own nm bs ml rt T h SF k j) {pc pc' : Nat} {ls : Array Slot} {st : List Value} {a : Addr} {kC : ClassId} {N jj x y : Int32} {vs vs' : List Value} {dv : Value} (hd : decode bs pc = .ok (.castore, 1)) (hp : pc' = pc + 1) (A : Arv Z h a kC .char N vs dv) {i : Nat} (hj : jj = Int32.ofNat i) (hi : i < N.toNatClampNeg) (hi' : i < vs.length) (hy : nar .char x = y) (hv : vs.set i (.int y) = vs') (hS : a ∈ SF) (hL : (⟨a, i⟩ : Loc) ∈ L0 ∨ s.heap.size ≤ a)
    (K : ∀ T' h', Wr h h' a i (.int y) → Arv Z h' a kC .char N vs' dv → Owk p l e R s m args below meth c Z a0 EL L0 own nm bs ml rt T' h' SF k j → Ogo p l e R s m args below meth c Z a0 EL L0 own nm bs ml rt T' (mkF m pc' ls st) Q) : Ogo p l e R s m args below meth c Z a0 EL L0 own nm bs ml rt T (mkF m pc ls (.int x :: .int jj :: .ref a :: st)) Q := by
  subst hp hy hv
  obtain ⟨cl, A1, A2, A3, A4, A5, A6⟩ := A
  obtain ⟨q1, q2⟩ := own_idx A4 hj hi
  refine own_wr W (v := .int (nar .char x)) (sl := i) hS hL (fun vm0 X hZ ho => ?_) (fun T' h' w => K T' h' w (Arv.set (j := jj) A1 A2 A3 A4 A5 A6 (fits_nar_char x) (by rw [q2]; exact w) i q2 hi'))
  have := stC X W.ex hZ W.2.1 A1 (j := jj) (x := x) (by rw [q2, A3]; intro z; rcases z with z | z; exact q1 z; omega) (g := mkF m pc ls (.int x :: .int jj :: .ref a :: st)) rfl rfl (W.hb hd)
  rw [q2] at this; exact this
theorem g_bastore (W : Owk p l e R s m args below meth c Z a0 EL L0 own nm bs ml rt T h SF k j) {pc pc' : Nat} {ls : Array Slot} {st : List Value} {a : Addr} {kC : ClassId} {N jj x y : Int32} {vs vs' : List Value} {dv : Value} (hd : decode bs pc = .ok (.bastore, 1)) (hp : pc' = pc + 1) (A : Arv Z h a kC .byte N vs dv) {i : Nat} (hj : jj = Int32.ofNat i) (hi : i < N.toNatClampNeg) (hi' : i < vs.length) (hy : nar .byte x = y) (hv : vs.set i (.int y) = vs') (hS : a ∈ SF) (hL : (⟨a, i⟩ : Loc) ∈ L0 ∨ s.heap.size ≤ a)
    (K : ∀ T' h', Wr h h' a i (.int y) → Arv Z h' a kC .byte N vs' dv → Owk p l e R s m args below meth c Z a0 EL L0 own nm bs ml rt T' h' SF k j → Ogo p l e R s m args below meth c Z a0 EL L0 own nm bs ml rt T' (mkF m pc' ls st) Q) : Ogo p l e R s m args below meth c Z a0 EL L0 own nm bs ml rt T (mkF m pc ls (.int x :: .int jj :: .ref a :: st)) Q := by
  subst hp hy hv
  obtain ⟨cl, A1, A2, A3, A4, A5, A6⟩ := A
  obtain ⟨q1, q2⟩ := own_idx A4 hj hi
  refine own_wr W (v := .int (nar .byte x)) (sl := i) hS hL (fun vm0 X hZ ho => ?_) (fun T' h' w => K T' h' w (Arv.set (j := jj) A1 A2 A3 A4 A5 A6 (fits_nar_byte x) (by rw [q2]; exact w) i q2 hi'))
  have := stB X W.ex hZ W.2.1 A1 (j := jj) (x := x) (by rw [q2, A3]; intro z; rcases z with z | z; exact q1 z; omega) (g := mkF m pc ls (.int x :: .int jj :: .ref a :: st)) rfl rfl (W.hb hd)
  rw [q2] at this; exact this
theorem g_initO (W : Owk p l e R s m args below meth c Z a0 EL L0 own nm bs ml rt T h SF k j) {pc pc' idx : Nat} {ls : Array Slot} {st : List Value} {a : Addr} (hd : decode bs pc = .ok (.invokespecial idx, 3)) (hp : pc' = pc + 3) (w1 : (Cond.methodLink own idx Lib.objectInit).before a0 Z = true) (w2 : (Cond.instanceMethod Lib.objectInit).before a0 Z = true) (w3 : (Cond.code Lib.objectInit ⟨#[0xb1]⟩ 1 none).before a0 Z = true) (hsz : ls.size = ml) (hf : 1 ≤ R.frames) {w : Nat} (hW : (st.map fun v => v.category).sum ≤ w) (hl : w + 12 ≤ R.locals)
    (K : ∀ T', Owk p l e R s m args below meth c Z a0 EL L0 own nm bs ml rt T' h SF k j → Ogo p l e R s m args below meth c Z a0 EL L0 own nm bs ml rt T' (mkF m pc' ls st) Q) : Ogo p l e R s m args below meth c Z a0 EL L0 own nm bs ml rt T (mkF m pc ls (.ref a :: st)) Q := by
  subst hp; exact own_same W (fun vm0 X hZ ho => initO X W.ex hZ ho w1 w2 w3 W.2.1 (g := mkF m pc ls (.ref a :: st)) rfl (by rw [W.1.2.2.2.2.1]; exact hsz) rfl (W.hb hd) hf (W := w) (by show 2 * 0 + _ ≤ _; omega) hl) K
/-- ldc of a String constant of EL, read -/
theorem g_ldcS (W : Owk p l e R s m args below meth c Z a0 EL L0 own nm bs ml rt T h SF k j) {pc pc' idx : Nat} {ls : Array Slot} {st : List Value} {text : String} {vs : List Value} {z : Int32} {n : Nat} (hd : decode bs pc = .ok (.ldc idx, 2)) (hp : pc' = pc + 2) (w : (Cond.stringLink own idx text).before a0 Z = true) (wS : ∀ a ∈ Bundle.stringAtoms, a.before a0 Z = true) (hmem : (own, idx) ∈ EL)
    (ht : (∀ c ∈ text.toList, c.toNat < 256) ∧ text.toList.map (fun c => Value.int (Jvm.Lit.byteI c.toNat.toUInt16)) = vs) (hz : ¬ z < 0) (hl : z.toNatClampNeg = vs.length) (hn : 4 * text.toList.length ≤ n) (hbig : n ≤ 536870912) (hc : k + 2 ≤ R.cells) (hs : j + (n + 4) ≤ R.slots)
    (K : ∀ T' h' a b kb, Ext h h' → Exa Z h' a "java/lang/String" → Fld Z h' a "java/lang/String" "coder" "B" (.int 0) → Fld Z h' a "java/lang/String" "value" "[B" (.ref b) → Arv Z h' b kb .byte z vs (.int 0) → Owk p l e R s m args below meth c Z a0 EL L0 own nm bs ml rt T' h' SF (k + 2) (j + (n + 4)) → Ogo p l e R s m args below meth c Z a0 EL L0 own nm bs ml rt T' (mkF m pc' ls (.ref a :: st)) Q) : Ogo p l e R s m args below meth c Z a0 EL L0 own nm bs ml rt T (mkF m pc ls st) Q := by
  subst hp
  obtain ⟨w1, w2, w3, w4, w5, vm0, k0, X, w6, w7, w8, w9, w10⟩ := id W
  obtain ⟨a, T', h', k1, b, kb, X', e', E, hS', hk', hW', hf', f1, f2, f3, f4, f5, f6, C, -, -, st'⟩ := ldcCH X W.ex w6 (W.fc w7) w wS w2 w7 w8 w1.2.1 hmem w9.1 ht hz hl (g := mkF m pc ls st) rfl (W.hb hd) hn hbig hc hs
  exact own_step st' (K T' h' a b kb E f1 f2 f3 f4 ⟨w1, e', fun x hx => Nat.lt_of_lt_of_le (w3 x hx) E.1, hc, hs, T'.vm, k1, X', hW', hS', hk', w9.trans C, fun x hx => C.safe (w3 x hx) (w10 x hx)⟩)
theorem Owk.add (W : Owk p l e R s m args below meth c Z a0 EL L0 own nm bs ml rt T h SF k j) {a : Addr} {kC : ClassId} {ty : FieldType} {N : Int32} {vs : List Value} {dv : Value} (A : Arv Z h a kC ty N vs dv) (ht : ty ≠ .byte) : Owk p l e R s m args below meth c Z a0 EL L0 own nm bs ml rt T h (a :: SF) k j := by
  obtain ⟨w1, w2, w3, w4, w5, vm0, k0, X, w6, w7, w8, w9, w10⟩ := W
  refine ⟨w1, w2, fun x hx => ?_, w4, w5, vm0, k0, X, w6, w7, w8, w9, fun x hx => ?_⟩
  · rcases List.mem_cons.mp hx with rfl | q
    · exact A.lt
    · exact w3 x q
  · rcases List.mem_cons.mp hx with rfl | q
    · exact Safe.arv w6.alike A ht
    · exact w10 x q
theorem Owk.addE (W : Owk p l e R s m args below meth c Z a0 EL L0 own nm bs ml rt T h SF k j) {a : Addr} {C : String} (E : Exa Z h a C) (h1 : C ≠ "java/lang/String") (h2 : C ≠ "[B") : Owk p l e R s m args below meth c Z a0 EL L0 own nm bs ml rt T h (a :: SF) k j := by
  obtain ⟨w1, w2, w3, w4, w5, vm0, k0, X, w6, w7, w8, w9, w10⟩ := W
  refine ⟨w1, w2, fun x hx => ?_, w4, w5, vm0, k0, X, w6, w7, w8, w9, fun x hx => ?_⟩
  · rcases List.mem_cons.mp hx with rfl | q
    · exact E.lt
    · exact w3 x q
  · rcases List.mem_cons.mp hx with rfl | q
    · exact Safe.exa w6.alike E h1 h2
    · exact w10 x q
theorem g_instN (W : Owk p l e R s m args below meth c Z a0 EL L0 own nm bs ml rt T h SF k j) {pc pc' idx : Nat} {ls : Array Slot} {st : List Value} (hd : decode bs pc = .ok (.instanceof idx, 3)) (hp : pc' = pc + 3)
    (K : Ogo p l e R s m args below meth c Z a0 EL L0 own nm bs ml rt T (mkF m pc' ls (.int 0 :: st)) Q) : Ogo p l e R s m args below meth c Z a0 EL L0 own nm bs ml rt T (mkF m pc ls (.null :: st)) Q := by
  subst hp; exact own_here W (fun vm0 X hZ ho => X.instanceofNull W.ex (g := mkF m pc ls (.null :: st)) rfl rfl (W.hb hd)) K
theorem g_clone (W : Owk p l e R s m args below meth c Z a0 EL L0 own nm bs ml rt T h SF k j) {pc pc' idx : Nat} {ls : Array Slot} {st : List Value} {ad : String} {a : Addr} {kC : ClassId} {ty : FieldType} {N : Int32} {vs : List Value} {dv : Value} {w cap : Nat} (hd : decode bs pc = .ok (.invokevirtual idx, 3)) (hp : pc' = pc + 3)
    (w1 : (Jvm.Cond.methodLink own idx ⟨ad, "clone", "()Ljava/lang/Object;"⟩).before a0 Z = true) (w2 : (Jvm.Cond.sameMethod ad "java/lang/Object" "clone" "()Ljava/lang/Object;").before a0 Z = true) (w3 : (Jvm.Cond.native ⟨"java/lang/Object", "clone", "()Ljava/lang/Object;"⟩).before a0 Z = true) (w4 : (Jvm.Cond.instanceMethod ⟨"java/lang/Object", "clone", "()Ljava/lang/Object;"⟩).before a0 Z = true) (w5 : (Jvm.Cond.selects ad ⟨ad, "clone", "()Ljava/lang/Object;"⟩ ⟨"java/lang/Object", "clone", "()Ljava/lang/Object;"⟩).before a0 Z = true) (w6 : (Jvm.Cond.castable ad "java/lang/Cloneable").before a0 Z = true)
    (A : Arv Z h a kC ty N vs dv) (E : Exa Z h a ad) (hsz : ls.size = ml) (hf : 1 ≤ R.frames) (hW : (st.map fun v => v.category).sum ≤ w) (hl : w + 14 ≤ R.locals) (hcap : N.toNatClampNeg ≤ cap) (hc : k + 1 ≤ R.cells) (hsl : j + cap ≤ R.slots)
    (K : ∀ T' h', Ext h h' → Arv Z h' h.size kC ty N vs dv → Exa Z h' h.size ad → Owk p l e R s m args below meth c Z a0 EL L0 own nm bs ml rt T' h' SF (k + 1) (j + cap) → Ogo p l e R s m args below meth c Z a0 EL L0 own nm bs ml rt T' (mkF m pc' ls (.ref h.size :: st)) Q) : Ogo p l e R s m args below meth c Z a0 EL L0 own nm bs ml rt T (mkF m pc ls (.ref a :: st)) Q := by
  subst hp
  obtain ⟨x1, x2, x3, x4, x5, vm0, k0, X, x6, x7, x8, x9, x10⟩ := id W
  obtain ⟨T', h', X', e', E', A', F', st'⟩ := cloneH X W.ex x6 (W.fc x7) w1 w2 w3 w4 w5 w6 x2 A.arh E (g := mkF m pc ls (.ref a :: st)) rfl (by rw [x1.2.2.2.2.1]; exact hsz) rfl (W.hb hd) hf (W := w) (by show 2 * 0 + _ ≤ _; omega) hl hcap hc hsl
  exact own_step st' (K T' h' E' A' F' ⟨x1, e', fun x hx => Nat.lt_of_lt_of_le (x3 x hx) E'.1, hc, hsl, vm0, k0, X', x6, x7, Nat.le_trans x8 E'.1, x9.trans (CHr.ext E' x9.1), fun x hx => (x10 x hx).ext E' x9.1⟩)
/-! returns -/
theorem g_ret (W : Owk p l e R s m args below meth c Z a0 EL L0 own nm bs ml rt T h SF k j) {pc : Nat} {ls : Array Slot} {st : List Value} {i : Instr} {t : FieldType} {v : Value} (hd : decode bs pc = .ok (i, 1)) (hr : rt = some t) (hn : narrow t v = v)
    (hi : (i = .ireturn ∧ (t = .int ∨ t = .boolean ∨ t = .byte ∨ t = .char ∨ t = .short) ∧ ∃ z, v = .int z) ∨ (i = .lreturn ∧ t = .long ∧ ∃ z, v = .long z) ∨ (i = .dreturn ∧ t = .double ∧ ∃ z, v = .double z) ∨ (i = .freturn ∧ t = .float ∧ ∃ z, v = .float z) ∨ (i = .areturn ∧ t.isReference = true ∧ v.isRef = true)) (q : Q (some v) h SF) : Ogo p l e R s m args below meth c Z a0 EL L0 own nm bs ml rt T (mkF m pc ls (v :: st)) Q := by
  obtain ⟨w1, w2, w3, w4, w5, vm0, k0, X, w6, w7, w8, w9, w10⟩ := id W
  exact ⟨T, some v, h, SF, k, j, W, (fun z => by rw [hr] at z; cases z), q, fun fs hl => retOut X W.ex (by rw [← hr]; exact w1.2.2.2.2.2.1) hn hi (W.hb hd) hl⟩
theorem g_return (W : Owk p l e R s m args below meth c Z a0 EL L0 own nm bs ml rt T h SF k j) {pc : Nat} {ls : Array Slot} (hd : decode bs pc = .ok (.return_, 1)) (hr : rt = none) (q : Q none h SF) : Ogo p l e R s m args below meth c Z a0 EL L0 own nm bs ml rt T (mkF m pc ls []) Q := by
  obtain ⟨w1, w2, w3, w4, w5, vm0, k0, X, w6, w7, w8, w9, w10⟩ := id W
  exact ⟨T, none, h, SF, k, j, W, fun _ => rfl, q, fun fs hl => X.returnOut W.ex (by rw [← hr]; exact w1.2.2.2.2.2.1) (W.hb hd) hl⟩
theorem g_iret (W : Owk p l e R s m args below meth c Z a0 EL L0 own nm bs ml rt T h SF k j) {pc : Nat} {ls : Array Slot} {st : List Value} {t : FieldType} {z : Int32} (hd : decode bs pc = .ok (.ireturn, 1)) (hr : rt = some t) (ht : t = .int ∨ t = .boolean ∨ t = .byte ∨ t = .char ∨ t = .short) (hn : narrow t (.int z) = .int z) (q : Q (some (.int z)) h SF) : Ogo p l e R s m args below meth c Z a0 EL L0 own nm bs ml rt T (mkF m pc ls (.int z :: st)) Q :=
  g_ret W hd hr hn (Or.inl ⟨rfl, ht, z, rfl⟩) q
theorem g_aret (W : Owk p l e R s m args below meth c Z a0 EL L0 own nm bs ml rt T h SF k j) {pc : Nat} {ls : Array Slot} {st : List Value} {t : FieldType} {v : Value} (hd : decode bs pc = .ok (.areturn, 1)) (hr : rt = some t) (ht : t.isReference = true) (hv : v.isRef = true) (hn : narrow t v = v) (q : Q (some v) h SF) : Ogo p l e R s m args below meth c Z a0 EL L0 own nm bs ml rt T (mkF m pc ls (v :: st)) Q :=
  g_ret W hd hr hn (Or.inr (Or.inr (Or.inr (Or.inr ⟨rfl, ht, hv⟩)))) q
/-! contracts -/
/-- y, called with as' at the heap h (whose cells ySF may be written), comes back with Q; of the old it writes the places yL alone -/
def Ocon (l : Launch) (Z : State) (EL : List (String × Nat)) (y : MethodName) (bs : ByteArray) (ml : Nat) (rt : Option FieldType) (ws : List Jvm.Cond) (rm : Room) (as' : Array Value) (h : Heap) (SF : List Addr) (L0 : List Loc) (Q : Option Value → Heap → List Addr → Prop) : Prop :=
  MetFree l y (head1 (Jvm.Cond.code y bs ml rt :: ws) rm) (fun a U => a = as' ∧ Z.Warmed39 U.vm ∧ U.heap = h ∧ CHv Z EL U.vm h ∧ ∀ x ∈ SF, x < h.size ∧ Safe Z EL U.vm h x) (fun _ _ _ _ _ => True)
    (fun _ U o U' => ∃ v SFo, o = .returned v ∧ Q v U'.heap SFo ∧ (∀ x ∈ SFo, x < U'.heap.size ∧ Safe Z EL U'.vm U'.heap x) ∧ CHr Z EL U.vm U.heap U'.vm U'.heap ∧ ReturnedEndW U o U' L0 rm.cells rm.slots)
theorem own_con {y : MethodName} {ws : List Jvm.Cond} {rm : Room} {as' : Array Value} {h0 : Heap} (hEL : EW Z a0 EL) (hpl : plainFor y = true)
    (go : ∀ (p : Program) (e : Env) (s : State) (m : MethodId) (below : List Frame) (meth : Method) (c : Code) (T : State), s.heap = h0 → Owk p l e rm s m as' below meth c Z a0 EL L0 y.cls y.name bs ml rt T h0 SF 0 0 → Ogo p l e rm s m as' below meth c Z a0 EL L0 y.cls y.name bs ml rt T (entryFrame m as' ml) Q) :
    Ocon l Z EL y bs ml rt ws rm as' h0 SF L0 Q := by
  refine MetFree.of_bodySF hpl hisR ?_
  intro p e s m args below meth c s₁ Bd hml hP hK
  obtain ⟨rfl, hZ, hh, hC, hS⟩ := hP
  have X0 : Stand p l e rm s m args below meth c s₁ [] 0 0 := Stand.of_body Bd
  have hlk : meth.locks = false := BodyLoose.notSynchronized Bd
  have e0 : s₁.heap = h0 := by rw [← hh, Bd.state]; rfl
  have X1 : Stand p l e rm (s.setVm s.vm) m args below meth c s₁ L0 0 0 := X0.sift (fun x hx => by cases hx)
  obtain ⟨T', v, h', SF', k', j', W', hv, hq, st⟩ := go p e s m below meth c s₁ hh ⟨⟨Bd.exec, hEL, findClass_of_methodNamed Bd.named, Bd.bytes, hml, Bd.returns, hlk, (name_of_methodNamed Bd.named Bd.method).1⟩, e0, fun x hx => (hS x hx).1, Nat.zero_le _, Nat.zero_le _, s.vm, s.heap.size, X1, hZ, (State.WarmedH.refl s).since _, by rw [hh]; exact Nat.le_refl _, by rw [hh]; exact CHr.refl hC, fun x hx => (hS x hx).2⟩
  obtain ⟨w1, w2, w3, w4, w5, vm0, k0, X, w6, w7, w8, w9, w10⟩ := W'
  obtain ⟨fs, hl, hrun, hend, hret⟩ := (X.mono w4 w5).leaveW (v := v) w7 (by rw [w2]; exact w8) (fun z => hv (by rw [← z]; exact Bd.returns.symm ▸ rfl)) hlk
  have A := CHv.at X w6 hEL w9.1
  refine ⟨_, _, st fs hl, hrun, hend, v, SF', rfl, by rw [show (T'.setFrames fs).heap = T'.heap from rfl, w2]; exact hq, fun x hx => ?_, ?_, hret⟩
  · show x < T'.heap.size ∧ Safe Z EL T'.vm T'.heap x
    rw [w2]; exact ⟨w3 x hx, A.safe (w3 x hx) (w10 x hx)⟩
  have q : CHr Z EL s.vm s.heap T'.vm h' := w9.trans A
  show CHr Z EL s.vm s.heap T'.vm T'.heap
  rw [w2]; exact q
section Calls
variable {y : MethodName} {yb : ByteArray} {yl : Nat} {yr : Option FieldType} {rm : Room} {as' : Array Value} {ySF : List Addr} {yL : List Loc} {yQ : Option Value → Heap → List Addr → Prop}
theorem own_back {vm0 : Vm} {len w : Nat} (con : Ocon l Z EL y yb yl yr [] rm as' h ySF yL yQ) (hZ : Z.Warmed39 vm0) (wc : (Jvm.Cond.code y yb yl yr).before a0 Z = true) (wz : (Jvm.Cond.initialized y.cls).before a0 Z = true) (hf : rm.frames + 1 ≤ R.frames) (hl : w + (yl + 11) + rm.locals ≤ R.locals) (hEL : EW Z a0 EL) (H : CHv Z EL vm0 h) (hS : ∀ x ∈ ySF, x < h.size ∧ Safe Z EL vm0 h x) :
    BackS l R p e below (s.setVm vm0) args y len w (fun A a => a = as' ∧ A.U.heap = h ∧ A.cells + rm.cells ≤ R.cells ∧ A.slots + rm.slots ≤ R.slots)
      (fun A _ v B => ∃ SFo, yQ v B.U.heap SFo ∧ (∀ x ∈ SFo, x < B.U.heap.size ∧ Safe Z EL B.U.vm B.U.heap x) ∧ B.locs = A.locs ++ yL ∧ B.cells = A.cells + rm.cells ∧ B.slots = A.slots + rm.slots ∧ CHr Z EL vm0 h B.U.vm B.U.heap) :=
  BackS.of_freeW (bytes := yb) (maxL := yl) (ret := yr) (E := fun _ first o t L k n => L = yL ∧ k = rm.cells ∧ n = rm.slots ∧ (∃ v SFo, o = .returned v ∧ yQ v t.heap SFo ∧ ∀ x ∈ SFo, x < t.heap.size ∧ Safe Z EL t.vm t.heap x) ∧ CHr Z EL first.vm first.heap t.vm t.heap) con hf hl
    (fun m meth c A a Y hp => have hU : Z.Warmed39 A.U.vm := wtrans (s := s.setVm vm0) hZ Y.warmed
      ⟨by show (Jvm.Cond.and _ .tt).before a A.U = true; rw [Cond.before_and, mv hU wc]; rfl, mv hU wc, mv hU wz, hp.2.2.1, hp.2.2.2⟩)
    (fun m meth c A a g mk Y hp => ⟨hp.1, wtrans (s := s.setVm vm0) hZ Y.warmed, hp.2.1, (CHv.at Y hZ hEL H).1, fun x hx => ⟨(hS x hx).1, (CHv.at Y hZ hEL H).safe (hS x hx).1 (hS x hx).2⟩⟩) (fun _ _ _ _ _ _ _ _ _ => trivial)
    (fun _ _ _ _ ⟨v, SFo, h1, h2, h2', h3, h4⟩ => ⟨yL, _, _, h4, rfl, rfl, rfl, ⟨v, SFo, h1, h2, h2'⟩, h3⟩)
    (fun m meth c A a g mk v t L k n Y hp _ _ ⟨e0, e1, e2, ⟨v', SFo, e3, e4, e4'⟩, e5⟩ => by
      cases e3; subst e0 e1 e2
      refine ⟨SFo, e4, e4', rfl, rfl, rfl, (CHv.at Y hZ hEL H).trans ?_⟩
      rw [← hp.2.1]; exact e5)
theorem own_after {SFo : List Addr} (W : Owk p l e R s m args below meth c Z a0 EL L0 own nm bs ml rt T h SF k j) {vm0 vm1 : Vm} {k0 : Nat} {B : Pt} (hS0 : s.Since vm0 k0) (hk0 : k0 ≤ h.size) (hZ : Z.Warmed39 vm0) (C0 : CHr Z EL s.vm s.heap vm0 h) (hsf : ∀ x ∈ SF, Safe Z EL vm0 h x) (hL : ∀ q ∈ yL, q ∈ L0 ∨ s.heap.size ≤ q.base) (hcl : k + rm.cells ≤ R.cells) (hsl : j + rm.slots ≤ R.slots)
    (X : Stand p l e R ((s.setVm vm0).setVm B.U.vm) m args below meth c B.U B.locs B.cells B.slots) (hS : (s.setVm vm0).Since B.U.vm B.U.heap.size) (hg : h.size ≤ B.U.heap.size) (hso : ∀ x ∈ SFo, x < B.U.heap.size ∧ Safe Z EL B.U.vm B.U.heap x) (el : B.locs = L0 ++ yL) (ec : B.cells = k + rm.cells) (es : B.slots = j + rm.slots) (C : CHr Z EL vm0 h B.U.vm B.U.heap) : Owk p l e R s m args below meth c Z a0 EL L0 own nm bs ml rt B.U B.U.heap (SFo ++ SF) (k + rm.cells) (j + rm.slots) := by
  rw [el, ec, es] at X
  have X2 := X.sift (L' := L0) (fun x hx => by
    rcases List.mem_append.mp hx with q | q
    · exact Or.inl q
    · exact hL x q)
  have hS2 : s.Since B.U.vm B.U.heap.size := hS0.trans hS (Nat.le_trans hk0 hg)
  exact ⟨W.1, rfl, fun x hx => (List.mem_append.mp hx).elim (fun q => (hso x q).1) (fun q => Nat.lt_of_lt_of_le (W.2.2.1 x q) hg), hcl, hsl, B.U.vm, _, X2, State.Warmed39.trans (t := s.setVm vm0) hZ hS.1, hS2, Nat.le_refl _, C0.trans C, fun x hx => (List.mem_append.mp hx).elim (fun q => (hso x q).2) (fun q => C.safe (W.2.2.1 x q) (hsf x q))⟩
theorem g_static (W : Owk p l e R s m args below meth c Z a0 EL L0 own nm bs ml rt T h SF k j) {pc pc' idx w : Nat} {ls : Array Slot} {argsL st stk : List Value} {ps : List FieldType} (hd : decode bs pc = .ok (.invokestatic idx, 3)) (hp : pc' = pc + 3) (w1 : (Jvm.Cond.methodLink own idx y).before a0 Z = true) (w2 : (Jvm.Cond.static y).before a0 Z = true) (w3 : (Jvm.Cond.initialized y.cls).before a0 Z = true) (w4 : (Jvm.Cond.code y yb yl yr).before a0 Z = true)
    (hy : y.cls ≠ "java/lang/invoke/MethodHandle" ∧ y.cls ≠ "java/lang/invoke/VarHandle") (con : Ocon l Z EL y yb yl yr [] rm as' h ySF yL yQ) (hpd : parseMethodDescriptor y.desc = some ⟨ps, yr⟩) (hln : argsL.length = ps.length) (hstk : stk = argsL.reverse ++ st) (has : as' = argsL.toArray) (hsz : ls.size = ml) (hf : rm.frames + 1 ≤ R.frames) (hW : (st.map fun v => v.category).sum ≤ w) (hlo : w + (yl + 11) + rm.locals ≤ R.locals) (hcl : k + rm.cells ≤ R.cells) (hsl : j + rm.slots ≤ R.slots) (hSF : ∀ x ∈ ySF, x ∈ SF) (hL : ∀ q ∈ yL, q ∈ L0 ∨ s.heap.size ≤ q.base)
    (K : ∀ v T' h' SFo, yQ v h' SFo → Owk p l e R s m args below meth c Z a0 EL L0 own nm bs ml rt T' h' (SFo ++ SF) (k + rm.cells) (j + rm.slots) → Ogo p l e R s m args below meth c Z a0 EL L0 own nm bs ml rt T' (mkF m pc' ls (v.toList ++ st)) Q) : Ogo p l e R s m args below meth c Z a0 EL L0 own nm bs ml rt T (mkF m pc ls stk) Q := by
  subst hp hstk has
  obtain ⟨x1, x2, x3, x4, x5, vm0, k0, X, x6, x7, x8, x9, x10⟩ := id W
  have m1 : (Jvm.Cond.code y yb yl yr).before args (s.setVm vm0) = true := mvT (s := s.setVm vm0) x6 w4
  obtain ⟨mk, hnamed⟩ := Cond.code_named m1
  obtain ⟨methM, cM, hmethM, -, -, -, -, -, -, hsigM⟩ := Cond.code_spec hnamed m1
  obtain ⟨v, vm1, B, -, X', hS', hg', ⟨SFo, q1, q0, q2, q3, q4, q5⟩, come⟩ := X.staticBackS W.ex (W.fc x7) (mvT (s := s.setVm vm0) x6 w1) (mvT (s := s.setVm vm0) x6 w2) (mvT (s := s.setVm vm0) x6 w3) hnamed hmethM hsigM hy
    (own_back (w := w) con x6 w4 w3 hf hlo x1.2.1 x9.1 (fun x hx => ⟨x3 x (hSF x hx), x10 x (hSF x hx)⟩)) (g := mkF m pc ls (argsL.reverse ++ st)) rfl (by rw [x1.2.2.2.2.1]; exact hsz) (Steps.refl _) (lenOf hpd hln) rfl (by show 2 * 0 + _ ≤ _; omega) (W.hb hd) (fun vm1 _ => ⟨rfl, x2, hcl, hsl⟩)
  rw [x2] at hg'
  exact own_step (fun t q => come.trans q) (K v B.U B.U.heap SFo q1 (own_after (vm1 := vm1) W x7 x8 x6 x9 x10 hL hcl hsl X' hS' hg' q0 q2 q3 q4 q5))
theorem g_special (W : Owk p l e R s m args below meth c Z a0 EL L0 own nm bs ml rt T h SF k j) {pc pc' idx w : Nat} {ls : Array Slot} {a : Addr} {argsL st stk : List Value} {ps : List FieldType} (hd : decode bs pc = .ok (.invokespecial idx, 3)) (hp : pc' = pc + 3) (hy1 : y.name = "<init>") (w1 : (Jvm.Cond.methodLink own idx y).before a0 Z = true) (w2 : (Jvm.Cond.instanceMethod y).before a0 Z = true) (w3 : (Jvm.Cond.initialized y.cls).before a0 Z = true) (w4 : (Jvm.Cond.code y yb yl none).before a0 Z = true)
    (hy : y.cls ≠ "java/lang/invoke/MethodHandle" ∧ y.cls ≠ "java/lang/invoke/VarHandle") (con : Ocon l Z EL y yb yl none [] rm as' h ySF yL yQ) (hpd : parseMethodDescriptor y.desc = some ⟨ps, none⟩) (hln : argsL.length = ps.length) (hstk : stk = argsL.reverse ++ .ref a :: st) (has : as' = (.ref a :: argsL).toArray) (hsz : ls.size = ml) (hf : rm.frames + 1 ≤ R.frames) (hW : (st.map fun v => v.category).sum ≤ w) (hlo : w + (yl + 11) + rm.locals ≤ R.locals) (hcl : k + rm.cells ≤ R.cells) (hsl : j + rm.slots ≤ R.slots) (hSF : ∀ x ∈ ySF, x ∈ SF) (hL : ∀ q ∈ yL, q ∈ L0 ∨ s.heap.size ≤ q.base)
    (K : ∀ v T' h' SFo, yQ v h' SFo → Owk p l e R s m args below meth c Z a0 EL L0 own nm bs ml rt T' h' (SFo ++ SF) (k + rm.cells) (j + rm.slots) → Ogo p l e R s m args below meth c Z a0 EL L0 own nm bs ml rt T' (mkF m pc' ls (v.toList ++ st)) Q) : Ogo p l e R s m args below meth c Z a0 EL L0 own nm bs ml rt T (mkF m pc ls stk) Q := by
  subst hp hstk has
  obtain ⟨x1, x2, x3, x4, x5, vm0, k0, X, x6, x7, x8, x9, x10⟩ := id W
  obtain ⟨v, vm1, B, -, X', hS', hg', ⟨SFo, q1, q0, q2, q3, q4, q5⟩, come⟩ := X.specialBackS W.ex hy1 (W.fc x7) (mvT (s := s.setVm vm0) x6 w1) (mvT (s := s.setVm vm0) x6 w2) (mvT (s := s.setVm vm0) x6 w4) hy
    (own_back (w := w) con x6 w4 w3 hf hlo x1.2.1 x9.1 (fun x hx => ⟨x3 x (hSF x hx), x10 x (hSF x hx)⟩)) (g := mkF m pc ls (argsL.reverse ++ .ref a :: st)) rfl (by rw [x1.2.2.2.2.1]; exact hsz) (Steps.refl _) (lenOf hpd hln) rfl (by show 2 * 0 + _ ≤ _; omega) (W.hb hd) (fun vm1 _ => ⟨rfl, x2, hcl, hsl⟩)
  rw [x2] at hg'
  exact own_step (fun t q => come.trans q) (K v B.U B.U.heap SFo q1 (own_after (vm1 := vm1) W x7 x8 x6 x9 x10 hL hcl hsl X' hS' hg' q0 q2 q3 q4 q5))
theorem g_virtual (W : Owk p l e R s m args below meth c Z a0 EL L0 own nm bs ml rt T h SF k j) {pc pc' idx w : Nat} {ls : Array Slot} {a : Addr} {C : String} {yd : MethodName} {argsL st stk : List Value} {ps : List FieldType} (hd : decode bs pc = .ok (.invokevirtual idx, 3)) (hp : pc' = pc + 3) (w1 : (Jvm.Cond.methodLink own idx yd).before a0 Z = true) (w5 : (Jvm.Cond.declares yd).before a0 Z = true) (w7 : (Jvm.Cond.selects yd.cls yd yd).before a0 Z = true) (w6 : (Jvm.Cond.selects C yd y).before a0 Z = true) (w2 : (Jvm.Cond.instanceMethod y).before a0 Z = true) (w3 : (Jvm.Cond.initialized y.cls).before a0 Z = true) (w4 : (Jvm.Cond.code y yb yl yr).before a0 Z = true)
    (hy : yd.cls ≠ "java/lang/invoke/MethodHandle" ∧ yd.cls ≠ "java/lang/invoke/VarHandle") (E : Exa Z h a C) (con : Ocon l Z EL y yb yl yr [] rm as' h ySF yL yQ) (hpd : parseMethodDescriptor yd.desc = some ⟨ps, yr⟩) (hln : argsL.length = ps.length) (hstk : stk = argsL.reverse ++ .ref a :: st) (has : as' = (.ref a :: argsL).toArray) (hsz : ls.size = ml) (hf : rm.frames + 1 ≤ R.frames) (hW : (st.map fun v => v.category).sum ≤ w) (hlo : w + (yl + 11) + rm.locals ≤ R.locals) (hcl : k + rm.cells ≤ R.cells) (hsl : j + rm.slots ≤ R.slots) (hSF : ∀ x ∈ ySF, x ∈ SF) (hL : ∀ q ∈ yL, q ∈ L0 ∨ s.heap.size ≤ q.base)
    (K : ∀ v T' h' SFo, yQ v h' SFo → Owk p l e R s m args below meth c Z a0 EL L0 own nm bs ml rt T' h' (SFo ++ SF) (k + rm.cells) (j + rm.slots) → Ogo p l e R s m args below meth c Z a0 EL L0 own nm bs ml rt T' (mkF m pc' ls (v.toList ++ st)) Q) : Ogo p l e R s m args below meth c Z a0 EL L0 own nm bs ml rt T (mkF m pc ls stk) Q := by
  subst hp hstk has
  obtain ⟨x1, x2, x3, x4, x5, vm0, k0, X, x6, x7, x8, x9, x10⟩ := id W
  obtain ⟨cq, kq, qa, -, qc⟩ := isOf (s := s.setVm vm0) x6 x2 E
  obtain ⟨v, vm1, B, -, X', hS', hg', ⟨SFo, q1, q0, q2, q3, q4, q5⟩, come⟩ := X.virtualBackS W.ex (W.fc x7) (mvT (s := s.setVm vm0) x6 w1) (mvT (s := s.setVm vm0) x6 w5) (notFace_of_selects (args := #[]) (mvT (s := s.setVm vm0) x6 w7)) (mvT (s := s.setVm vm0) x6 w6) (mvT (s := s.setVm vm0) x6 w2) hy
    (own_back (w := w) con x6 w4 w3 hf hlo x1.2.1 x9.1 (fun x hx => ⟨x3 x (hSF x hx), x10 x (hSF x hx)⟩)) qa qc (g := mkF m pc ls (argsL.reverse ++ .ref a :: st)) rfl (by rw [x1.2.2.2.2.1]; exact hsz) (Steps.refl _) (lenOf hpd hln) rfl (by show 2 * 0 + _ ≤ _; omega) (W.hb hd) (fun vm1 _ => ⟨rfl, x2, hcl, hsl⟩)
  rw [x2] at hg'
  exact own_step (fun t q => come.trans q) (K v B.U B.U.heap SFo q1 (own_after (vm1 := vm1) W x7 x8 x6 x9 x10 hL hcl hsl X' hS' hg' q0 q2 q3 q4 q5))
/-- a virtual call paid by a narrow law that leaves the heap as it is -/
theorem g_virtualB (W : Owk p l e R s m args below meth c Z a0 EL L0 own nm bs ml rt T h SF k j) {pc pc' idx w : Nat} {ls : Array Slot} {a : Addr} {C : String} {yd : MethodName} {argsL st stk : List Value} {ps : List FieldType} {yR : Option Value → Prop} (hd : decode bs pc = .ok (.invokevirtual idx, 3)) (hp : pc' = pc + 3) (w1 : (Jvm.Cond.methodLink own idx yd).before a0 Z = true) (w5 : (Jvm.Cond.declares yd).before a0 Z = true) (w7 : (Jvm.Cond.selects yd.cls yd yd).before a0 Z = true) (w6 : (Jvm.Cond.selects C yd y).before a0 Z = true) (w2 : (Jvm.Cond.instanceMethod y).before a0 Z = true)
    (hy : yd.cls ≠ "java/lang/invoke/MethodHandle" ∧ yd.cls ≠ "java/lang/invoke/VarHandle") (E : Exa Z h a C)
    (pay : ∀ vm0, Z.Warmed39 vm0 → Back l R p e below (s.setVm vm0) args y 3 w (fun P a' => a' = as' ∧ P.U.heap = h ∧ P.cells + 0 ≤ R.cells ∧ P.slots + 0 ≤ R.slots) (fun P _ v B => ∃ L, (yR v ∧ L = [] ∧ B.U.heap = h) ∧ B.locs = P.locs ++ L ∧ B.cells = P.cells + 0 ∧ B.slots = P.slots + 0))
    (hpd : parseMethodDescriptor yd.desc = some ⟨ps, yr⟩) (hln : argsL.length = ps.length) (hstk : stk = argsL.reverse ++ .ref a :: st) (has : as' = (.ref a :: argsL).toArray) (hsz : ls.size = ml) (hW : (st.map fun v => v.category).sum ≤ w)
    (K : ∀ v T', yR v → Owk p l e R s m args below meth c Z a0 EL L0 own nm bs ml rt T' h SF k j → Ogo p l e R s m args below meth c Z a0 EL L0 own nm bs ml rt T' (mkF m pc' ls (v.toList ++ st)) Q) : Ogo p l e R s m args below meth c Z a0 EL L0 own nm bs ml rt T (mkF m pc ls stk) Q := by
  subst hp hstk has
  obtain ⟨x1, x2, x3, x4, x5, vm0, k0, X, x6, x7, x8, x9, x10⟩ := id W
  obtain ⟨cq, kq, qa, -, qc⟩ := isOf (s := s.setVm vm0) x6 x2 E
  obtain ⟨v, vm1, ⟨T', L', k', j'⟩, -, X', ⟨L, ⟨q1, q2, q3⟩, q4, q5, q6⟩, come⟩ := X.virtualBack W.ex (W.fc x7) (mvT (s := s.setVm vm0) x6 w1) (mvT (s := s.setVm vm0) x6 w5) (notFace_of_selects (args := #[]) (mvT (s := s.setVm vm0) x6 w7)) (mvT (s := s.setVm vm0) x6 w6) (mvT (s := s.setVm vm0) x6 w2) hy
    (pay vm0 x6) qa qc (g := mkF m pc ls (argsL.reverse ++ .ref a :: st)) rfl (by rw [x1.2.2.2.2.1]; exact hsz) (Steps.refl _) (lenOf hpd hln) rfl (by show 2 * 0 + _ ≤ _; omega) (W.hb hd) (fun vm1 _ => ⟨rfl, x2, x4, x5⟩)
  dsimp only [Pt.U, Pt.locs, Pt.cells, Pt.slots] at X' q3 q4 q5 q6 come
  subst q2 q4 q5 q6
  rw [List.append_nil] at X'
  exact own_step (fun t q => come.trans q) (K v T' q1 ⟨x1, q3, x3, x4, x5, vm0, k0, X', x6, x7, x8, x9, x10⟩)
end Calls
end OwnLayer
/-! plain facts on numbers and lists -/
open StrChars in
theorem own_lo8 (x : Int32) : nar .byte (x.toInt8.toInt32) = lo8 x := by
  show x.toInt8.toInt32.toInt8.toInt32 = x.toInt8.toInt32
  rw [Int8.toInt8_toInt32]
theorem own_lt {i n : Nat} (hn : n < 2 ^ 30) (h : i < n) : Int32.ofNat i < Int32.ofNat n := Jvm.Free.XT.lt32 (by omega) h
theorem own_succ (i : Nat) : Int32.ofNat i + Int32.ofInt 1 = Int32.ofNat (i + 1) := by rw [Int32.ofNat_add]; rfl
theorem own_nn {n : Nat} (hn : n < 2 ^ 30) : ¬ Int32.ofNat n < 0 := Int32.ofNat_not_neg (by omega)
theorem own_clamp {n : Nat} (hn : n < 2 ^ 30) : (Int32.ofNat n).toNatClampNeg = n := Jvm.Free.XT.n32 (by omega)
theorem own_getI (cs : List Int32) (dv : Value) {i : Nat} (h : i < cs.length) : (cs.map Value.int).getD i dv = .int (cs.getD i 0) := by
  simp [List.getD_eq_getElem?_getD, h]
open StrChars in
/-- the byte[] when the first r chars are laid -/
def own_cmp (cs : List Int32) (n r : Nat) : List Value := ((cs.take r).map fun c => Value.int (lo8 c)) ++ List.replicate (n - r) (.int 0)
theorem own_cmp0 (cs : List Int32) (n : Nat) : own_cmp cs n 0 = List.replicate n (.int 0) := by simp [own_cmp]
open StrChars in
theorem own_cmpn (cs : List Int32) {n : Nat} (hn : cs.length = n) : own_cmp cs n n = cs.map fun c => Value.int (lo8 c) := by subst hn; simp [own_cmp]
theorem own_cmplen (cs : List Int32) {n r : Nat} (hn : cs.length = n) (h : r ≤ n) : (own_cmp cs n r).length = n := by simp [own_cmp, hn]; omega
open StrChars in
theorem own_cmpset (cs : List Int32) {n i : Nat} (hn : cs.length = n) (h : i < n) : (own_cmp cs n i).set i (.int (lo8 (cs.getD i 0))) = own_cmp cs n (i + 1) := by
  have hl : i < cs.length := by omega
  have e1 : cs.take (i + 1) = cs.take i ++ [cs.getD i 0] := by
    rw [List.take_succ]; simp [List.getD_eq_getElem?_getD, hl]
  have e2 : ((cs.take i).map fun c => Value.int (lo8 c)).length = i := by simp; omega
  have e3 : List.replicate (n - i) (Value.int 0) = .int 0 :: List.replicate (n - (i + 1)) (.int 0) := by
    rw [show n - i = n - (i + 1) + 1 by omega]; rfl
  unfold own_cmp
  rw [e1, List.map_append, e3, List.set_append_right _ _ (by omega), e2]
  simp
open StrChars.Road in
/-- x is a String of the chars cs -/
def OStr (Z : State) (h : Heap) (x : Addr) (cs : List Int32) : Prop := Exa Z h x "java/lang/String" ∧ (∀ c ∈ cs, ¬ c < 0 ∧ ¬ (65535 : Int32) < c) ∧ ∃ (t : Addr) (kb : ClassId) (cd N2 : Int32) (vs : List Value), Fld Z h x "java/lang/String" "value" "[B" (.ref t) ∧ Fld Z h x "java/lang/String" "coder" "B" (.int cd) ∧ Arv Z h t kb .byte N2 vs (.int 0) ∧ CodA cs cd N2 vs
theorem OStr.ext {Z : State} {h h' : Heap} {x : Addr} {cs : List Int32} (S : OStr Z h x cs) (E : Ext h h') : OStr Z h' x cs := by
  obtain ⟨s1, s2, t, kb, cd, N2, vs, s3, s4, s5, s6⟩ := S
  exact ⟨s1.ext E, s2, t, kb, cd, N2, vs, s3.ext E, s4.ext E, s5.ext E, s6⟩
theorem own_ext_wr {h h1 h2 : Heap} {a : Addr} {sl : Nat} {v : Value} (E : Ext h h1) (W : Wr h1 h2 a sl v) (q : h.size ≤ a) : Ext h h2 := by
  refine ⟨by rw [W.size]; exact E.1, fun x c hx => ?_⟩
  obtain ⟨cb', e1, -, -, -, e2, -⟩ := wr_at W (E.2 x c hx)
  have := (Array.getElem?_eq_some_iff.mp hx).1
  rw [e2 (Nat.ne_of_lt (Nat.lt_of_lt_of_le this q))] at e1; exact e1
theorem own_ext_keep {h h1 h2 : Heap} {ws : List Addr} (E : Ext h h1) (K : Keep h1 h2 ws) (q : ∀ x ∈ ws, h.size ≤ x) : Ext h h2 := by
  refine ⟨Nat.le_trans E.1 K.1, fun x c hx => K.2.1 x c (E.2 x c hx) fun z => ?_⟩
  have := (Array.getElem?_eq_some_iff.mp hx).1
  have := q x z
  omega
theorem own_ext_tr {h h1 h2 : Heap} (E : Ext h h1) (F : Ext h1 h2) : Ext h h2 := ⟨Nat.le_trans E.1 F.1, fun x c hx => F.2 x c (E.2 x c hx)⟩
theorem own_ext_rf (h : Heap) : Ext h h := ⟨Nat.le_refl _, fun _ _ q => q⟩
theorem own_keep_ext {h h' : Heap} {ws : List Addr} (E : Ext h h') : Keep h h' ws := (Keep.refl h ws).ext E
theorem own_pad0 {Z : State} {h : Heap} {a : Addr} {k : ClassId} {ty : FieldType} {N : Int32} {dv : Value} (n : Nat) (A : Arv Z h a k ty N [] dv) : Arv Z h a k ty N (List.replicate n dv) dv := A.pad fun i => by simpa using pad_rep [] dv n i
theorem own_b0 : ∀ c ∈ ([] : List Int32), ¬ c < 0 ∧ ¬ (255 : Int32) < c := fun _ q => nomatch q
theorem own_bc {c : Int32} {cs : List Int32} (q : ¬ c < 0 ∧ ¬ (255 : Int32) < c) (r : ∀ c ∈ cs, ¬ c < 0 ∧ ¬ (255 : Int32) < c) : ∀ x ∈ c :: cs, ¬ x < 0 ∧ ¬ (255 : Int32) < x := fun x hx => by
  rcases List.mem_cons.mp hx with rfl | z
  · exact q
  · exact r x z
theorem own_b255 (w : Int32) : ¬ (w &&& 255) < 0 ∧ ¬ (255 : Int32) < (w &&& 255) := by
  have q := c_and w 255 (by decide)
  have e : (255 : Int32).toInt = 255 := rfl
  have e0 : (0 : Int32).toInt = 0 := rfl
  rw [Int32.lt_iff_toInt_lt, Int32.lt_iff_toInt_lt]
  omega
theorem own_rem (pp : Int32) {n : Nat} (hn : n < 2 ^ 30) (hp : 0 < n) : ∃ i, i < n ∧ (pp &&& 2147483647) % Int32.ofNat n = Int32.ofNat i := by
  have q := (c_and pp 2147483647 (by decide)).1
  have e : (Int32.ofNat n).toInt = n := Int32.toInt_ofNat_of_lt (by omega)
  have r := (c_iremV (pp &&& 2147483647) (Int32.ofNat n)).1 q (by omega)
  refine ⟨((pp &&& 2147483647) % Int32.ofNat n).toInt.toNat, by omega, Int32.toInt_inj.mp ?_⟩
  rw [Int32.toInt_ofNat_of_lt (by omega)]
  omega
theorem own_bset (cs : List Int32) (i : Nat) {v : Int32} (hv : ¬ v < 0 ∧ ¬ (255 : Int32) < v) (h : ∀ c ∈ cs, ¬ c < 0 ∧ ¬ (255 : Int32) < c) : ∀ c ∈ cs.set i v, ¬ c < 0 ∧ ¬ (255 : Int32) < c := fun c hc => by
  rcases List.mem_or_eq_of_mem_set hc with z | rfl
  · exact h c z
  · exact hv
theorem own_dbl {i : Nat} (h : i < 2 ^ 29) : Int32.ofNat i <<< ((1 : Int32) &&& 31) = Int32.ofNat (2 * i) := by
  have q := c_ishl (Int32.ofNat i) 1 1 (by decide)
  have e1 : (Int32.ofNat i).toInt = i := Int32.toInt_ofNat_of_lt (by omega)
  have e2 : (Int32.ofNat (2 * i)).toInt = ((2 * i : Nat) : Int) := Int32.toInt_ofNat_of_lt (by omega)
  have r := rng32 (Int32.ofNat i <<< ((1 : Int32) &&& 31))
  apply Int32.toInt_inj.mp
  rw [e2]
  rw [e1] at q
  omega
theorem own_b16 {cs : List Int32} (h : ∀ c ∈ cs, ¬ c < 0 ∧ ¬ (255 : Int32) < c) : ∀ c ∈ cs, ¬ c < 0 ∧ ¬ (65535 : Int32) < c := fun c hc => ⟨(h c hc).1, fun q => (h c hc).2 (Int32.lt_trans (by decide) q)⟩
theorem own_all {cs : List Int32} {n : Nat} (hn : cs.length = n) (h : ∀ i, i < n → ¬ (255 : Int32) < cs.getD i 0) : ∀ c ∈ cs, ¬ (255 : Int32) < c := fun c hc => by
  obtain ⟨i, hi, rfl⟩ := List.getElem_of_mem hc
  have q := h i (by omega)
  have e : cs.getD i 0 = cs[i] := by simp [List.getD_eq_getElem?_getD, hi]
  rw [e] at q; exact q
open StrChars StrChars.Road in
theorem own_wlen : ∀ cs : List Int32, (wideBytes cs).length = 2 * cs.length
  | [] => rfl
  | c :: cs => by simp [wideBytes, own_wlen cs]; omega
open StrChars StrChars.Road in
/-- the byte[] when the first i chars are laid, two bytes each -/
def own_wide (cs : List Int32) (n i : Nat) : List Value := wideBytes (cs.take i) ++ List.replicate (2 * (n - i)) (.int 0)
theorem own_wide0 (cs : List Int32) (n : Nat) : own_wide cs n 0 = List.replicate (2 * n) (.int 0) := by simp [own_wide, StrChars.Road.wideBytes]
theorem own_widen (cs : List Int32) {n : Nat} (hn : cs.length = n) : own_wide cs n n = StrChars.Road.wideBytes cs := by subst hn; simp [own_wide]
theorem own_widelen (cs : List Int32) {n i : Nat} (hn : cs.length = n) (h : i ≤ n) : (own_wide cs n i).length = 2 * n := by simp [own_wide, own_wlen]; omega
open StrChars StrChars.Road in
theorem own_wapp : ∀ (cs : List Int32) (c : Int32), wideBytes (cs ++ [c]) = wideBytes cs ++ [.int (lo8 c), .int (hi8 c)]
  | [], c => rfl
  | d :: cs, c => by simp [wideBytes, own_wapp cs c]
open StrChars StrChars.Road in
theorem own_wideset (cs : List Int32) {n i : Nat} (hn : cs.length = n) (h : i < n) : ((own_wide cs n i).set (2 * i) (.int (lo8 (cs.getD i 0)))).set (2 * i + 1) (.int (hi8 (cs.getD i 0))) = own_wide cs n (i + 1) := by
  have hl : i < cs.length := by omega
  have e1 : cs.take (i + 1) = cs.take i ++ [cs.getD i 0] := by
    rw [List.take_succ]; simp [List.getD_eq_getElem?_getD, hl]
  have e2 : (wideBytes (cs.take i)).length = 2 * i := by rw [own_wlen, List.length_take]; omega
  have e3 : List.replicate (2 * (n - i)) (Value.int 0) = .int 0 :: .int 0 :: List.replicate (2 * (n - (i + 1))) (.int 0) := by
    rw [show 2 * (n - i) = 2 * (n - (i + 1)) + 1 + 1 by omega]; rfl
  unfold own_wide
  rw [e1, own_wapp, e3, List.set_append_right _ _ (by omega), List.set_append_right _ _ (by omega), e2]
  simp
theorem own_neg {n : Nat} (h0 : 0 < n) (h : n < 2 ^ 29) : (XT.ushr (Int32.ofNat n - Int32.ofNat (2 * n)) 31).toInt8.toInt32 = 1 := by
  have e1 : (Int32.ofNat n).toInt = n := Int32.toInt_ofNat_of_lt (by omega)
  have e2 : (Int32.ofNat (2 * n)).toInt = ((2 * n : Nat) : Int) := Int32.toInt_ofNat_of_lt (by omega)
  have q := c_isub (Int32.ofNat n) (Int32.ofNat (2 * n))
  have r := rng32 (Int32.ofNat n - Int32.ofNat (2 * n))
  have u := c_iushr (Int32.ofNat n - Int32.ofNat (2 * n)) 31 31 (by decide) (by decide)
  have e3 : XT.ushr (Int32.ofNat n - Int32.ofNat (2 * n)) 31 = 1 := by
    apply Int32.toInt_inj.mp
    show ((Int32.ofNat n - Int32.ofNat (2 * n)).toUInt32 >>> ((31 : Int32) &&& 31).toUInt32).toInt32.toInt = 1
    rw [u]
    rw [e1, e2] at q
    omega
  rw [e3]; rfl
theorem own_mem {cs : List Int32} {i : Nat} (h : i < cs.length) : cs.getD i 0 ∈ cs := by
  have e : cs.getD i 0 = cs[i] := by simp [List.getD_eq_getElem?_getD, h]
  rw [e]; exact List.getElem_mem _
theorem own_nlt {i n : Nat} (hi : i < 2 ^ 30) (h : n ≤ i) : ¬ Int32.ofNat i < Int32.ofNat n := fun q => by
  rw [Int32.lt_iff_toInt_lt, Int32.toInt_ofNat_of_lt (by omega), Int32.toInt_ofNat_of_lt (by omega)] at q
  omega
theorem own_allg {bl : List Int32} (h : ∀ i, i < bl.length → ¬ bl.getD i 0 < (0 : Int32)) : ∀ b ∈ bl, ¬ b < (0 : Int32) := fun c hc => by
  obtain ⟨i, hi, rfl⟩ := List.getElem_of_mem hc
  have q := h i hi
  have e : bl.getD i 0 = bl[i] := by simp [List.getD_eq_getElem?_getD, hi]
  rw [e] at q; exact q
/-! facts of the start, out of the sheet's words -/
theorem own_len {Z : State} {args : Array Value} {t : Term} {a : Addr} {cl : Cell} {ty : FieldType} {N : Int32} (ev : t.eval args Z none [] Z = some (.ref a)) (A : Arr Z Z.heap a cl ty) (h : (Jvm.Cond.eq (.length t) (.int N)).value args Z none Z [] = some true) : cl.slots.size < 2 ^ 31 ∧ cl.slots.size.toInt32 = N := by
  have e := eqv_i (Term.int_eval N) h
  have ha : Z.arrayAt? a = some cl := A.fin (Vm.Alike.refl _)
  by_cases q : cl.slots.size < 2 ^ 31
  · rw [len_f ev ha q] at e
    exact ⟨q, Value.int.inj (Option.some.inj e)⟩
  · simp [Term.eval, ev, ha] at e
    exact absurd e.1 q
theorem own_el {Z : State} {args : Array Value} {t : Term} {a : Addr} {cl : Cell} {j b : Int32} (ev : t.eval args Z none [] Z = some (.ref a)) (hc : Z.heap[a]? = some cl) (h : (Jvm.Cond.eq (.elem t (.int j)) (.int b)).value args Z none Z [] = some true) : cl.slots[j.toNatClampNeg]? = some (.int b) := (elem_in (eqv_i (Term.int_eval b) h) ev (Term.int_eval j) hc).2
theorem own_eqR {Z : State} {args : Array Value} {X F : Term} {y : Addr} (hF : F.eval args Z none [] Z = some (.ref y)) (h : (Jvm.Cond.eq X F).value args Z none Z [] = some true) : X.eval args Z none [] Z = some (.ref y) := by
  obtain ⟨x, y', e1, e2, k1, k2⟩ := cmp_v (Or.inl h)
  cases hF.symm.trans e2
  have hx : x.isRef = true := by cases x <;> simp_all [Kin, Value.isRef]
  have q := gotT (eq_R e1 hF hx rfl) h
  rw [e1, q]
theorem own_elR {Z : State} {args : Array Value} {t F : Term} {a y : Addr} {cl : Cell} {j : Int32} (ev : t.eval args Z none [] Z = some (.ref a)) (hc : Z.heap[a]? = some cl) (hF : F.eval args Z none [] Z = some (.ref y)) (h : (Jvm.Cond.eq (.elem t (.int j)) F).value args Z none Z [] = some true) : cl.slots[j.toNatClampNeg]? = some (.ref y) := (elem_in (own_eqR hF h) ev (Term.int_eval j) hc).2
theorem own_strZ {Z : State} {args : Array Value} {t : Term} {q : Addr} {N : Int32} {cs : List Int32} (hf : Fit Z) (eq : t.eval args Z none [] Z = some (.ref q)) (cx : (Jvm.Cond.exactly t "java/lang/String").value args Z none Z [] = some true) (cc : (Jvm.Cond.eq (.field t "java/lang/String" "coder" "B") (.int 0)).value args Z none Z [] = some true) (ca : (Jvm.Cond.arrayOf (.field t "java/lang/String" "value" "[B") .byte).value args Z none Z [] = some true) (cl : (Jvm.Cond.eq (.length (.field t "java/lang/String" "value" "[B")) (.int N)).value args Z none Z [] = some true)
    (hN : ¬ N < 0) (hl : N.toNatClampNeg = cs.length) (hN' : N = Int32.ofNat cs.length) (hb : ∀ c ∈ cs, ¬ c < 0 ∧ ¬ (255 : Int32) < c) (H : ∀ (b : Addr) (cell : Cell), (Term.field t "java/lang/String" "value" "[B").eval args Z none [] Z = some (.ref b) → Z.heap[b]? = some cell → HasL cell 0 (cs.map fun c => Value.int (StrChars.lo8 c))) : OStr Z Z.heap q cs := by
  obtain ⟨b, eb⟩ := arr_v ca
  obtain ⟨cell, A⟩ := Arr.start eb ca
  obtain ⟨l1, l2⟩ := own_len eb A cl
  have ec := eqv_i (Term.int_eval 0) cc
  refine ⟨Exa.start eq cx, fun c hc => ⟨(hb c hc).1, fun z => (hb c hc).2 (Int32.lt_trans (by decide) z)⟩, b, cell.cls, 0, N, _, Fld.start ((fld_at eq).symm.trans eb), Fld.start ((fld_at eq).symm.trans ec), Arv.start hf A l1 l2 hN (by rw [List.length_map]; exact hl) (H b cell eb A.1), Or.inl ⟨rfl, hN', rfl, fun c hc => (hb c hc).2⟩⟩
theorem own_c0 {P : Jvm.Cond → Prop} : ∀ a ∈ ([] : List Jvm.Cond), P a := fun _ q => nomatch q
theorem own_cc {P : Jvm.Cond → Prop} {c : Jvm.Cond} {L : List Jvm.Cond} (q : P c) (r : ∀ a ∈ L, P a) : ∀ a ∈ c :: L, P a := fun a ha => by
  rcases List.mem_cons.mp ha with rfl | z
  · exact q
  · exact r a z
/-! longs, arraycopy -/
section OwnLayer3
variable {p : Program} {l : Launch} {e : Env} {R : Room} {s : State} {m : MethodId} {args : Array Value} {below : List Frame} {meth : Method} {c : Code}
variable {Z : State} {a0 : Array Value} {EL : List (String × Nat)} {L0 : List Loc} {own nm : String} {bs : ByteArray} {ml : Nat} {rt : Option FieldType}
variable {T : State} {h : Heap} {SF : List Addr} {k j : Nat} {Q : Option Value → Heap → List Addr → Prop}
variable {pc pc' : Nat} {ls : Array Slot} {st : List Value}
theorem g_i2l (W : Owk p l e R s m args below meth c Z a0 EL L0 own nm bs ml rt T h SF k j) {x : Int32} (hd : decode bs pc = .ok (.i2l, 1)) (hp : pc' = pc + 1) (K : Ogo p l e R s m args below meth c Z a0 EL L0 own nm bs ml rt T (mkF m pc' ls (.long x.toInt64 :: st)) Q) : Ogo p l e R s m args below meth c Z a0 EL L0 own nm bs ml rt T (mkF m pc ls (.int x :: st)) Q := by
  subst hp; exact own_step (fun t q => XT.i2l W.at W.ex rfl (W.hb hd) rfl q) K
theorem g_lsub (W : Owk p l e R s m args below meth c Z a0 EL L0 own nm bs ml rt T h SF k j) {x y : Int64} (hd : decode bs pc = .ok (.lsub, 1)) (hp : pc' = pc + 1) (K : Ogo p l e R s m args below meth c Z a0 EL L0 own nm bs ml rt T (mkF m pc' ls (.long (x - y) :: st)) Q) : Ogo p l e R s m args below meth c Z a0 EL L0 own nm bs ml rt T (mkF m pc ls (.long y :: .long x :: st)) Q := by
  subst hp; exact own_step (fun t q => XT.lsub W.at W.ex rfl (W.hb hd) rfl q) K
theorem g_lcmp (W : Owk p l e R s m args below meth c Z a0 EL L0 own nm bs ml rt T h SF k j) {x y : Int64} (hd : decode bs pc = .ok (.lcmp, 1)) (hp : pc' = pc + 1) (K : Ogo p l e R s m args below meth c Z a0 EL L0 own nm bs ml rt T (mkF m pc' ls (.int (XT.cmpL x y) :: st)) Q) : Ogo p l e R s m args below meth c Z a0 EL L0 own nm bs ml rt T (mkF m pc ls (.long y :: .long x :: st)) Q := by
  subst hp; exact own_step (fun t q => XT.lcmp W.at W.ex rfl (W.hb hd) rfl q) K
theorem g_cpA (W : Owk p l e R s m args below meth c Z a0 EL L0 own nm bs ml rt T h SF k j) {idx w n i cc : Nat} {a b : Addr} {kA kB : ClassId} {vs vd : List Value} {dv dd : Value} (hd : decode bs pc = .ok (.invokestatic idx, 3)) (hp : pc' = pc + 3)
    (w1 : (Cond.methodLink own idx Jvm.Stand.acN).before a0 Z = true) (w2 : (Cond.native Jvm.Stand.acN).before a0 Z = true) (w3 : (Cond.static Jvm.Stand.acN).before a0 Z = true) (w4 : (Cond.initialized "java/lang/System").before a0 Z = true)
    (A : Arv Z h a kA .byte (Int32.ofNat n) vs dv) (B : Arv Z h b kB .byte (Int32.ofNat cc) vd dd) (hn : n < 2 ^ 30) (hi : i + cc ≤ n) (hl : vd.length = cc) (hS : b ∈ SF) (hb : s.heap.size ≤ b) (N : Fr s.heap.size L0) (hsz : ls.size = ml) (hf : 1 ≤ R.frames) (hW : (st.map fun v => v.category).sum ≤ w) (hlo : w + 18 ≤ R.locals)
    (K : ∀ T' h', Keep h h' [b] → Arv Z h' b kB .byte (Int32.ofNat cc) ((List.range cc).map fun x => vs.getD (i + x) dv) dd → Owk p l e R s m args below meth c Z a0 EL L0 own nm bs ml rt T' h' SF k j → Ogo p l e R s m args below meth c Z a0 EL L0 own nm bs ml rt T' (mkF m pc' ls st) Q) :
    Ogo p l e R s m args below meth c Z a0 EL L0 own nm bs ml rt T (mkF m pc ls (.int (Int32.ofNat cc) :: .int 0 :: .ref b :: .int (Int32.ofNat i) :: .ref a :: st)) Q := by
  subst hp
  obtain ⟨u1, u2, u3, u4, u5, vm0, k0, X, u6, u7, u8, u9, u10⟩ := id W
  have c1 : (Int32.ofNat cc).toNatClampNeg = cc := own_clamp (by omega)
  have c2 : (Int32.ofNat i).toNatClampNeg = i := own_clamp (by omega)
  have c3 : (Int32.ofNat n).toNatClampNeg = n := own_clamp hn
  have c0 : (0 : Int32).toNatClampNeg = 0 := rfl
  obtain ⟨T', h', L, X', e', N', Kp, V, st'⟩ := cpA X W.ex u6 (W.fc u7) w1 w2 w3 w4 u2 A B (Or.inl ⟨rfl, rfl⟩) (sp := Int32.ofNat i) (dp := 0) (nn := Int32.ofNat cc) (own_nn (by omega)) (by decide) (own_nn (by omega)) (by rw [c1, c2, c3]; exact hi) (by rw [c0, c1]; omega) rfl (by rw [c0, c1]; omega) N hb (g := mkF m pc ls (.int (Int32.ofNat cc) :: .int 0 :: .ref b :: .int (Int32.ofNat i) :: .ref a :: st)) rfl (by rw [W.1.2.2.2.2.1]; exact hsz) rfl (W.hb hd) hf (W := w) (by show 2 * 0 + _ ≤ _; omega) (by rw [show nativeFrameWords "java/lang/System" "arraycopy" 5 = 7 from by decide]; exact hlo)
  rw [c0, c1, c2, List.take_zero, List.nil_append, Nat.zero_add, List.drop_of_length_le (by omega), List.append_nil] at V
  have X2 := X'.sift (L' := L0) (fun x hx => Or.inr (N' x hx))
  have sf : ∀ x ∈ [b], Safe Z EL vm0 h x := fun x hx => by rw [List.mem_singleton.mp hx]; exact u10 b hS
  exact own_step st' (K T' h' Kp V ⟨u1, e', fun x hx => Nat.lt_of_lt_of_le (u3 x hx) Kp.1, u4, u5, vm0, k0, X2, u6, u7, Nat.le_trans u8 Kp.1, u9.trans (CHr.keep Kp sf u9.1), fun x hx => (u10 x hx).keep Kp sf u9.1⟩)
end OwnLayer3
/-! the plain law of isType -/
theorem own_add (i j : Nat) : Int32.ofNat i + Int32.ofNat j = Int32.ofNat (i + j) := (Int32.ofNat_add _ _).symm
theorem own_subn {i j : Nat} (hi : i < 2 ^ 30) (h : j ≤ i) : Int32.ofNat i - Int32.ofNat j = Int32.ofNat (i - j) := by
  have e1 : (Int32.ofNat i).toInt = i := Int32.toInt_ofNat_of_lt (by omega)
  have e2 : (Int32.ofNat j).toInt = j := Int32.toInt_ofNat_of_lt (by omega)
  have e3 : (Int32.ofNat (i - j)).toInt = ((i - j : Nat) : Int) := Int32.toInt_ofNat_of_lt (by omega)
  have q := c_isub (Int32.ofNat i) (Int32.ofNat j)
  have r := rng32 (Int32.ofNat i - Int32.ofNat j)
  apply Int32.toInt_inj.mp
  rw [e3]
  rw [e1, e2] at q
  omega
theorem own_dec (x : Int32) : x + Int32.ofInt (-1) = x - 1 := by rw [Int32.sub_eq_add_neg]; exact congrArg (x + ·) (by decide)
theorem own_zero {n : Nat} (hn : n < 2 ^ 30) (h : ¬ (0 : Int32) < Int32.ofNat n) : n = 0 := by
  rcases Nat.eq_zero_or_pos n with q | q
  · exact q
  · exact absurd (own_lt (i := 0) hn q) h
theorem own_eqn {a b : Nat} (ha : a < 2 ^ 30) (hb : b ≤ a) (h : ¬ Int32.ofNat b < Int32.ofNat a) : a = b := by
  rcases Nat.lt_or_ge b a with q | q
  · exact absurd (own_lt ha q) h
  · omega
theorem own_inj {a b : Nat} (ha : a < 2 ^ 30) (hb : b < 2 ^ 30) (h : Int32.ofNat a = Int32.ofNat b) : a = b := by
  have q := congrArg Int32.toInt h
  rw [Int32.toInt_ofNat_of_lt (by omega), Int32.toInt_ofNat_of_lt (by omega)] at q
  omega
theorem own_lc (a : Int64) : XT.cmpL ((0 : Int32).toInt64) (a - a) = 0 := by rw [Int64.sub_self]; decide
theorem own_small {c : Int32} (h : ¬ c < 0 ∧ ¬ (255 : Int32) < c) : ∃ n, n < 256 ∧ c = Int32.ofNat n := by
  have h1 := h.1; have h2 := h.2
  rw [Int32.lt_iff_toInt_lt] at h1 h2
  have e0 : (0 : Int32).toInt = 0 := rfl
  have e1 : (255 : Int32).toInt = 255 := rfl
  refine ⟨c.toInt.toNat, by omega, Int32.toInt_inj.mp ?_⟩
  rw [Int32.toInt_ofNat_of_lt (by omega)]
  omega
def own_fold (c : Int32) : Int32 := if ¬ c < 65 ∧ ¬ 90 < c then c + 32 else if ¬ c < 192 ∧ ¬ 222 < c ∧ ¬ c = 215 then c + 32 else c
def own_let (u : Int32) : Prop := ¬ u < 65 ∧ (¬ 90 < u ∨ (¬ u < 192 ∧ ¬ 222 < u ∧ ¬ u = 215))
instance (u : Int32) : Decidable (own_let u) := by unfold own_let; infer_instance
def own_up (c : Int32) : Int32 := if own_let (c &&& 223) then c &&& 223 else c
theorem own_tab : ∀ n, n < 256 → own_fold (own_up (Int32.ofNat n)) = own_fold (Int32.ofNat n) ∧ own_up (own_fold (Int32.ofNat n)) = own_up (Int32.ofNat n) ∧ StrChars.lo8 (Int32.ofNat n) &&& 223 = Int32.ofNat n &&& 223 ∧ StrChars.lo8 (Int32.ofNat n) &&& 255 = Int32.ofNat n ∧ (Int32.ofNat n &&& 223) &&& 223 = Int32.ofNat n &&& 223 := by decide +kernel
theorem own_tabc {c : Int32} (h : ¬ c < 0 ∧ ¬ (255 : Int32) < c) : own_fold (own_up c) = own_fold c ∧ own_up (own_fold c) = own_up c ∧ StrChars.lo8 c &&& 223 = c &&& 223 ∧ StrChars.lo8 c &&& 255 = c ∧ (c &&& 223) &&& 223 = c &&& 223 := by
  obtain ⟨n, hn, rfl⟩ := own_small h; exact own_tab n hn
theorem own_loinj {c d : Int32} (hc : ¬ c < 0 ∧ ¬ (255 : Int32) < c) (hd : ¬ d < 0 ∧ ¬ (255 : Int32) < d) (h : StrChars.lo8 c = StrChars.lo8 d) : c = d := by
  have q1 := (own_tabc hc).2.2.2.1; have q2 := (own_tabc hd).2.2.2.1
  rw [← q1, h, q2]
theorem own_ci {c d : Int32} (hc : ¬ c < 0 ∧ ¬ (255 : Int32) < c) (hd : ¬ d < 0 ∧ ¬ (255 : Int32) < d) : own_fold c = own_fold d ↔ (StrChars.lo8 c = StrChars.lo8 d ∨ (own_let (StrChars.lo8 c &&& 223) ∧ StrChars.lo8 c &&& 223 = StrChars.lo8 d &&& 223)) := by
  obtain ⟨c1, c2, c3, c4, c5⟩ := own_tabc hc
  obtain ⟨d1, d2, d3, d4, d5⟩ := own_tabc hd
  rw [c3, d3]
  constructor
  · intro h
    have q : own_up c = own_up d := by rw [← c2, ← d2, h]
    by_cases l1 : own_let (c &&& 223)
    · refine Or.inr ⟨l1, ?_⟩
      by_cases l2 : own_let (d &&& 223)
      · rw [own_up, own_up, if_pos l1, if_pos l2] at q; exact q
      · rw [own_up, own_up, if_pos l1, if_neg l2] at q; rw [← q, c5]
    · by_cases l2 : own_let (d &&& 223)
      · rw [own_up, own_up, if_neg l1, if_pos l2] at q
        exact absurd (by rw [q, d5]; exact l2) l1
      · rw [own_up, own_up, if_neg l1, if_neg l2] at q; rw [q]; exact Or.inl rfl
  · rintro (h | ⟨l1, h⟩)
    · rw [own_loinj hc hd h]
    · rw [← c1, ← d1, own_up, own_up, if_pos l1, if_pos (h ▸ l1), h]
/-- the first place where q holds, or the length -/
def own_first (q : Int32 → Bool) : List Int32 → Nat
  | [] => 0
  | c :: cs => if q c then 0 else own_first q cs + 1
theorem own_first_le (q : Int32 → Bool) : ∀ cs, own_first q cs ≤ cs.length
  | [] => Nat.le_refl _
  | c :: cs => by have := own_first_le q cs; simp only [own_first, List.length_cons]; split <;> omega
theorem own_first_is (q : Int32 → Bool) : ∀ (cs : List Int32) (f : Nat), f ≤ cs.length → (∀ i, i < f → q (cs.getD i 0) = false) → (f < cs.length → q (cs.getD f 0) = true) → f = own_first q cs
  | [], f, h1, _, _ => Nat.le_zero.mp h1
  | c :: cs, 0, _, _, h3 => by have := h3 (by simp); simp at this; simp [own_first, this]
  | c :: cs, f + 1, h1, h2, h3 => by
    have e := h2 0 (by omega)
    simp at e
    have r := own_first_is q cs f (by simp at h1; exact h1) (fun i hi => by have := h2 (i + 1) (by omega); simpa using this) (fun hf => by have := h3 (by simp; omega); simpa using this)
    simp [own_first, e, ← r]
theorem own_first_no (q : Int32 → Bool) : ∀ (cs : List Int32) (i : Nat), i < own_first q cs → q (cs.getD i 0) = false
  | [], i, h => absurd h (Nat.not_lt_zero _)
  | c :: cs, i, h => by
    by_cases e : q c = true
    · simp [own_first, e] at h
    · cases i with
      | zero => simpa using e
      | succ i => simp [own_first, e] at h; simpa using own_first_no q cs i h
abbrev own_p59 (c : Int32) : Bool := decide (c = 59)
abbrev own_p32 (c : Int32) : Bool := decide (32 < c)
def own_end : List Int32 → Nat
  | [] => 0
  | c :: cs => if own_end cs = 0 then (if 32 < c then 1 else 0) else own_end cs + 1
theorem own_end_sp : ∀ cs : List Int32, own_end cs ≤ cs.length ∧ (∀ i, own_end cs ≤ i → i < cs.length → ¬ (32 : Int32) < cs.getD i 0) ∧ (0 < own_end cs → (32 : Int32) < cs.getD (own_end cs - 1) 0)
  | [] => ⟨Nat.le_refl _, fun i _ h => absurd h (Nat.not_lt_zero _), fun h => absurd h (Nat.lt_irrefl _)⟩
  | c :: cs => by
    obtain ⟨h1, h2, h3⟩ := own_end_sp cs
    by_cases e : own_end cs = 0
    · by_cases e2 : (32 : Int32) < c
      · have q : own_end (c :: cs) = 1 := by rw [own_end, if_pos e, if_pos e2]
        rw [q]
        refine ⟨by simp, fun i hi hl => ?_, fun _ => by simpa using e2⟩
        obtain ⟨i, rfl⟩ : ∃ k, i = k + 1 := ⟨i - 1, by omega⟩
        have := h2 i (by omega) (by simpa using hl)
        simpa using this
      · have q : own_end (c :: cs) = 0 := by rw [own_end, if_pos e, if_neg e2]
        rw [q]
        refine ⟨by simp, fun i hi hl => ?_, fun h => absurd h (Nat.lt_irrefl _)⟩
        cases i with
        | zero => simpa using e2
        | succ i => have := h2 i (by omega) (by simpa using hl); simpa using this
    · have q : own_end (c :: cs) = own_end cs + 1 := by rw [own_end, if_neg e]
      rw [q]
      refine ⟨by simp; exact h1, fun i hi hl => ?_, fun _ => ?_⟩
      · obtain ⟨i, rfl⟩ : ∃ k, i = k + 1 := ⟨i - 1, by omega⟩
        have := h2 i (by omega) (by simpa using hl)
        simpa using this
      · have := h3 (by omega)
        obtain ⟨k, hk⟩ : ∃ k, own_end cs = k + 1 := ⟨own_end cs - 1, by omega⟩
        rw [hk] at this ⊢
        simpa using this
/-- where the trimmed part ends -/
def own_e (cs : List Int32) : Nat := if own_end cs = 0 then own_first own_p32 cs else own_end cs
theorem own_e_is (cs : List Int32) (e : Nat) (h0 : own_first own_p32 cs ≤ e) (h1 : e ≤ cs.length) (h2 : ∀ i, e ≤ i → i < cs.length → ¬ (32 : Int32) < cs.getD i 0) (h3 : own_first own_p32 cs < e → (32 : Int32) < cs.getD (e - 1) 0) : e = own_e cs := by
  obtain ⟨r1, r2, r3⟩ := own_end_sp cs
  unfold own_e
  by_cases q : own_end cs = 0
  · rw [if_pos q]
    have : own_first own_p32 cs = cs.length := (own_first_is own_p32 cs cs.length (Nat.le_refl _) (fun i hi => by simp [own_p32]; have := r2 i (by omega) hi; exact Int32.not_lt.mp this) (fun h => absurd h (Nat.lt_irrefl _))).symm
    omega
  · rw [if_neg q]
    have r3 := r3 (by omega)
    have a1 : own_first own_p32 cs ≤ own_end cs - 1 := by
      rcases Nat.lt_or_ge (own_end cs - 1) (own_first own_p32 cs) with z | z
      · have := own_first_no own_p32 cs _ z; simp [own_p32] at this; exact absurd r3 (Int32.not_lt.mpr this)
      · exact z
    rcases Nat.lt_trichotomy e (own_end cs) with z | z | z
    · exact absurd r3 (h2 _ (by omega) (by omega))
    · exact z
    · exact absurd (h3 (by omega)) (r2 _ (by omega) (by omega))
theorem own_e_ge (cs : List Int32) : own_first own_p32 cs ≤ own_e cs := by
  obtain ⟨r1, r2, r3⟩ := own_end_sp cs
  unfold own_e
  by_cases q : own_end cs = 0
  · rw [if_pos q]; exact Nat.le_refl _
  · rw [if_neg q]
    rcases Nat.lt_or_ge (own_end cs) (own_first own_p32 cs) with z | z
    · have := own_first_no own_p32 cs _ (show own_end cs - 1 < _ by omega); simp [own_p32] at this; exact absurd (r3 (by omega)) (Int32.not_lt.mpr this)
    · exact z
theorem own_e_le (cs : List Int32) : own_e cs ≤ cs.length := by
  unfold own_e
  split
  · exact own_first_le _ _
  · exact (own_end_sp cs).1
def own_tr (cs : List Int32) : List Int32 := (cs.drop (own_first own_p32 cs)).take (own_e cs - own_first own_p32 cs)
def OCI (cs ds : List Int32) : Prop := cs.length = ds.length ∧ ∀ i, i < cs.length → own_fold (cs.getD i 0) = own_fold (ds.getD i 0)
theorem own_join (xs ys : List Int32) (i2 : Nat) {c' : List Int32} (f : Nat) (hc : c' = xs.take f) (hy : i2 ≤ ys.length) : OCI (own_tr c') (ys.take i2) ↔ (own_e c' - own_first own_p32 c' = i2 ∧ ∀ j, j < own_e c' - own_first own_p32 c' → own_fold (xs.getD (own_first own_p32 c' + j) 0) = own_fold (ys.getD j 0)) := by
  have l1 : own_e c' ≤ c'.length := own_e_le c'
  have l2 : (own_tr c').length = own_e c' - own_first own_p32 c' := by simp [own_tr]; omega
  have l3 : (ys.take i2).length = i2 := by simp; omega
  have l4 : c'.length ≤ f := by rw [hc]; simp; omega
  have l5 : c'.length ≤ xs.length := by rw [hc]; simp; omega
  have g1 : ∀ j, j < own_e c' - own_first own_p32 c' → (own_tr c').getD j 0 = xs.getD (own_first own_p32 c' + j) 0 := fun j hj => by
    have e : ∀ k, k < f → c'[k]? = xs[k]? := fun k hk => by rw [hc, List.getElem?_take_of_lt hk]
    simp only [own_tr, List.getD_eq_getElem?_getD]
    rw [List.getElem?_take_of_lt hj, List.getElem?_drop, e _ (by omega)]
  unfold OCI
  rw [l2, l3]
  constructor
  · rintro ⟨q1, q2⟩
    refine ⟨q1, fun j hj => ?_⟩
    have := q2 j hj
    rw [g1 j hj] at this
    simp only [List.getD_eq_getElem?_getD] at this ⊢
    rw [List.getElem?_take_of_lt (by omega)] at this
    exact this
  · rintro ⟨q1, q2⟩
    refine ⟨q1, fun j hj => ?_⟩
    have := q2 j hj
    rw [g1 j hj]
    simp only [List.getD_eq_getElem?_getD] at this ⊢
    rw [List.getElem?_take_of_lt (by omega)]
    exact this
theorem own_cp (cs : List Int32) (st len : Nat) (h : st + len ≤ cs.length) (dv : Value) : ((List.range len).map fun x => (cs.map fun c => Value.int (StrChars.lo8 c)).getD (st + x) dv) = ((cs.drop st).take len).map fun c => Value.int (StrChars.lo8 c) := by
  apply List.ext_getElem?
  intro i
  by_cases q : i < len
  · have q1 : st + i < cs.length := by omega
    simp [List.getElem?_take_of_lt, q, q1, List.getD_eq_getElem?_getD]
  · simp [q, List.getElem?_take]
/-- x is a String of the chars cs, none above 255 -/
def OLat (Z : State) (h : Heap) (x : Addr) (cs : List Int32) : Prop := Exa Z h x "java/lang/String" ∧ (∀ c ∈ cs, ¬ c < 0 ∧ ¬ (255 : Int32) < c) ∧ ∃ (t : Addr) (kb : ClassId), Fld Z h x "java/lang/String" "value" "[B" (.ref t) ∧ Fld Z h x "java/lang/String" "coder" "B" (.int 0) ∧ Arv Z h t kb .byte (Int32.ofNat cs.length) (cs.map fun c => Value.int (StrChars.lo8 c)) (.int 0)
theorem OLat.ext {Z : State} {h h' : Heap} {x : Addr} {cs : List Int32} (S : OLat Z h x cs) (E : Ext h h') : OLat Z h' x cs := by
  obtain ⟨s1, s2, t, kb, s3, s4, s5⟩ := S
  exact ⟨s1.ext E, s2, t, kb, s3.ext E, s4.ext E, s5.ext E⟩
theorem OLat.of {Z : State} {h : Heap} {x : Addr} {cs : List Int32} (S : OStr Z h x cs) (hb : ∀ c ∈ cs, ¬ c < 0 ∧ ¬ (255 : Int32) < c) : OLat Z h x cs := by
  obtain ⟨s1, s2, t, kb, cd, N2, vs, s3, s4, s5, s6⟩ := S
  rcases s6 with ⟨rfl, rfl, rfl, -⟩ | ⟨-, -, -, c, hc, q⟩
  · exact ⟨s1, hb, t, kb, s3, s4, s5⟩
  · exact absurd q (hb c hc).2
theorem OLat.inj {Z : State} {h : Heap} {x : Addr} {cs ds : List Int32} (S : OLat Z h x cs) (S' : OLat Z h x ds) (hl : cs.length < 2 ^ 30) (hl' : ds.length < 2 ^ 30) : cs = ds := by
  obtain ⟨-, b1, t, kb, f1, -, a1⟩ := S
  obtain ⟨-, b2, t', kb', f2, -, a2⟩ := S'
  have e : (Value.ref t) = .ref t' := Decidable.byContradiction fun q => f1.ne f2 q rfl
  cases e
  obtain ⟨c1, A1, -, z1, -, H1, -⟩ := a1
  obtain ⟨c2, A2, -, z2, -, H2, -⟩ := a2
  cases A1.1.symm.trans A2.1
  rw [own_clamp hl] at z1
  rw [own_clamp hl'] at z2
  have hlen : cs.length = ds.length := z1.symm.trans z2
  apply List.ext_getElem hlen
  intro i h1 h2
  have q := (H1 i (by omega)).symm.trans (H2 i (by omega))
  rw [StrChars.Road.low_at _ cs i h1, StrChars.Road.low_at _ ds i h2] at q
  have q := Value.int.inj (Option.some.inj q)
  have r := own_loinj (b1 _ (own_mem h1)) (b2 _ (own_mem h2)) q
  have g1 : cs.getD i 0 = cs[i] := by simp [List.getD_eq_getElem?_getD, h1]
  have g2 : ds.getD i 0 = ds[i] := by simp [List.getD_eq_getElem?_getD, h2]
  rw [g1, g2] at r
  exact r
theorem own_btake {cs : List Int32} (n : Nat) (h : ∀ c ∈ cs, ¬ c < 0 ∧ ¬ (255 : Int32) < c) : ∀ c ∈ cs.take n, ¬ c < 0 ∧ ¬ (255 : Int32) < c := fun c hc => h c (List.mem_of_mem_take hc)
theorem own_bdrop {cs : List Int32} (n : Nat) (h : ∀ c ∈ cs, ¬ c < 0 ∧ ¬ (255 : Int32) < c) : ∀ c ∈ cs.drop n, ¬ c < 0 ∧ ¬ (255 : Int32) < c := fun c hc => h c (List.mem_of_mem_drop hc)
def own_text (k : Nat) : String := match tables_1[k]? with | some (.stringLink _ _ t) => t | _ => ""
theorem own_str {Z : State} {a0 : Array Value} (hw : ∀ d ∈ tables_1, d.before a0 Z = true) : ∀ a ∈ Bundle.stringAtoms, a.before a0 Z = true :=
  own_cc (hw _ (List.mem_of_getElem? (i := 7) rfl)) (own_cc (hw _ (List.mem_of_getElem? (i := 6) rfl)) (own_cc (hw _ (List.mem_of_getElem? (i := 23) rfl)) (own_cc (hw _ (List.mem_of_getElem? (i := 33) rfl)) (own_cc (hw _ (List.mem_of_getElem? (i := 31) rfl)) (own_cc (hw _ (List.mem_of_getElem? (i := 35) rfl)) (own_cc (hw _ (List.mem_of_getElem? (i := 36) rfl)) (own_c0)))))))
theorem dS0_0 : decode jdk_52_method_21_code 0 = .ok (.iconst 0, 1) := by decide +kernel
theorem dS0_1 : decode jdk_52_method_21_code 1 = .ok (.istore 5, 2) := by decide +kernel
theorem dS0_3 : decode jdk_52_method_21_code 3 = .ok (.iload 5, 2) := by decide +kernel
theorem dS0_5 : decode jdk_52_method_21_code 5 = .ok (.iload 4, 2) := by decide +kernel
theorem dS0_7 : decode jdk_52_method_21_code 7 = .ok (.if_icmp .ge 37, 3) := by decide +kernel
theorem dS0_10 : decode jdk_52_method_21_code 10 = .ok (.aload_n 0, 1) := by decide +kernel
theorem dS0_11 : decode jdk_52_method_21_code 11 = .ok (.iload_n 1, 1) := by decide +kernel
theorem dS0_12 : decode jdk_52_method_21_code 12 = .ok (.caload, 1) := by decide +kernel
theorem dS0_13 : decode jdk_52_method_21_code 13 = .ok (.istore 6, 2) := by decide +kernel
theorem dS0_15 : decode jdk_52_method_21_code 15 = .ok (.iload 6, 2) := by decide +kernel
theorem dS0_17 : decode jdk_52_method_21_code 17 = .ok (.sipush 255, 3) := by decide +kernel
theorem dS0_20 : decode jdk_52_method_21_code 20 = .ok (.if_icmp .le 6, 3) := by decide +kernel
theorem dS0_23 : decode jdk_52_method_21_code 23 = .ok (.iload 5, 2) := by decide +kernel
theorem dS0_25 : decode jdk_52_method_21_code 25 = .ok (.ireturn, 1) := by decide +kernel
theorem dS0_26 : decode jdk_52_method_21_code 26 = .ok (.aload_n 2, 1) := by decide +kernel
theorem dS0_27 : decode jdk_52_method_21_code 27 = .ok (.iload_n 3, 1) := by decide +kernel
theorem dS0_28 : decode jdk_52_method_21_code 28 = .ok (.iload 6, 2) := by decide +kernel
theorem dS0_30 : decode jdk_52_method_21_code 30 = .ok (.i2b, 1) := by decide +kernel
theorem dS0_31 : decode jdk_52_method_21_code 31 = .ok (.bastore, 1) := by decide +kernel
theorem dS0_32 : decode jdk_52_method_21_code 32 = .ok (.iinc 1 1, 3) := by decide +kernel
theorem dS0_35 : decode jdk_52_method_21_code 35 = .ok (.iinc 3 1, 3) := by decide +kernel
theorem dS0_38 : decode jdk_52_method_21_code 38 = .ok (.iinc 5 1, 3) := by decide +kernel
theorem dS0_41 : decode jdk_52_method_21_code 41 = .ok (.goto (-38), 3) := by decide +kernel
theorem dS0_44 : decode jdk_52_method_21_code 44 = .ok (.iload 4, 2) := by decide +kernel
theorem dS0_46 : decode jdk_52_method_21_code 46 = .ok (.ireturn, 1) := by decide +kernel
theorem dS1_0 : decode jdk_52_method_16_code 0 = .ok (.iload_n 2, 1) := by decide +kernel
theorem dS1_1 : decode jdk_52_method_16_code 1 = .ok (.newarray .byte, 2) := by decide +kernel
theorem dS1_3 : decode jdk_52_method_16_code 3 = .ok (.astore_n 3, 1) := by decide +kernel
theorem dS1_4 : decode jdk_52_method_16_code 4 = .ok (.aload_n 0, 1) := by decide +kernel
theorem dS1_5 : decode jdk_52_method_16_code 5 = .ok (.iload_n 1, 1) := by decide +kernel
theorem dS1_6 : decode jdk_52_method_16_code 6 = .ok (.aload_n 3, 1) := by decide +kernel
theorem dS1_7 : decode jdk_52_method_16_code 7 = .ok (.iconst 0, 1) := by decide +kernel
theorem dS1_8 : decode jdk_52_method_16_code 8 = .ok (.iload_n 2, 1) := by decide +kernel
theorem dS1_9 : decode jdk_52_method_16_code 9 = .ok (.invokestatic 115, 3) := by decide +kernel
theorem dS1_12 : decode jdk_52_method_16_code 12 = .ok (.istore 4, 2) := by decide +kernel
theorem dS1_14 : decode jdk_52_method_16_code 14 = .ok (.iload 4, 2) := by decide +kernel
theorem dS1_16 : decode jdk_52_method_16_code 16 = .ok (.iload_n 2, 1) := by decide +kernel
theorem dS1_17 : decode jdk_52_method_16_code 17 = .ok (.if_icmp .eq 40, 3) := by decide +kernel
theorem dS1_20 : decode jdk_52_method_16_code 20 = .ok (.aload_n 0, 1) := by decide +kernel
theorem dS1_21 : decode jdk_52_method_16_code 21 = .ok (.iload_n 1, 1) := by decide +kernel
theorem dS1_22 : decode jdk_52_method_16_code 22 = .ok (.iload_n 2, 1) := by decide +kernel
theorem dS1_23 : decode jdk_52_method_16_code 23 = .ok (.invokestatic 119, 3) := by decide +kernel
theorem dS1_26 : decode jdk_52_method_16_code 26 = .ok (.astore 5, 2) := by decide +kernel
theorem dS1_28 : decode jdk_52_method_16_code 28 = .ok (.aload 5, 2) := by decide +kernel
theorem dS1_30 : decode jdk_52_method_16_code 30 = .ok (.iload 4, 2) := by decide +kernel
theorem dS1_32 : decode jdk_52_method_16_code 32 = .ok (.invokestatic 71, 3) := by decide +kernel
theorem dS1_35 : decode jdk_52_method_16_code 35 = .ok (.sipush 255, 3) := by decide +kernel
theorem dS1_38 : decode jdk_52_method_16_code 38 = .ok (.if_icmp .gt 16, 3) := by decide +kernel
theorem dS1_41 : decode jdk_52_method_16_code 41 = .ok (.aload 5, 2) := by decide +kernel
theorem dS1_43 : decode jdk_52_method_16_code 43 = .ok (.iconst 0, 1) := by decide +kernel
theorem dS1_44 : decode jdk_52_method_16_code 44 = .ok (.aload_n 3, 1) := by decide +kernel
theorem dS1_45 : decode jdk_52_method_16_code 45 = .ok (.iconst 0, 1) := by decide +kernel
theorem dS1_46 : decode jdk_52_method_16_code 46 = .ok (.iload_n 2, 1) := by decide +kernel
theorem dS1_47 : decode jdk_52_method_16_code 47 = .ok (.invokestatic 123, 3) := by decide +kernel
theorem dS1_50 : decode jdk_52_method_16_code 50 = .ok (.iload_n 2, 1) := by decide +kernel
theorem dS1_51 : decode jdk_52_method_16_code 51 = .ok (.if_icmp .eq 6, 3) := by decide +kernel
theorem dS1_54 : decode jdk_52_method_16_code 54 = .ok (.aload 5, 2) := by decide +kernel
theorem dS1_56 : decode jdk_52_method_16_code 56 = .ok (.areturn, 1) := by decide +kernel
theorem dS1_57 : decode jdk_52_method_16_code 57 = .ok (.aload_n 3, 1) := by decide +kernel
theorem dS1_58 : decode jdk_52_method_16_code 58 = .ok (.areturn, 1) := by decide +kernel
theorem dS2_0 : decode jdk_52_method_15_code 0 = .ok (.iload_n 1, 1) := by decide +kernel
theorem dS2_1 : decode jdk_52_method_15_code 1 = .ok (.aload_n 0, 1) := by decide +kernel
theorem dS2_2 : decode jdk_52_method_15_code 2 = .ok (.arraylength, 1) := by decide +kernel
theorem dS2_3 : decode jdk_52_method_15_code 3 = .ok (.isub, 1) := by decide +kernel
theorem dS2_4 : decode jdk_52_method_15_code 4 = .ok (.bipush 31, 2) := by decide +kernel
theorem dS2_6 : decode jdk_52_method_15_code 6 = .ok (.iushr, 1) := by decide +kernel
theorem dS2_7 : decode jdk_52_method_15_code 7 = .ok (.i2b, 1) := by decide +kernel
theorem dS2_8 : decode jdk_52_method_15_code 8 = .ok (.ireturn, 1) := by decide +kernel
theorem dS3_0 : decode jdk_42_method_149_code 0 = .ok (.aload_n 0, 1) := by decide +kernel
theorem dS3_1 : decode jdk_42_method_149_code 1 = .ok (.invokespecial 1, 3) := by decide +kernel
theorem dS3_4 : decode jdk_42_method_149_code 4 = .ok (.iload_n 3, 1) := by decide +kernel
theorem dS3_5 : decode jdk_42_method_149_code 5 = .ok (.ifCond .ne 22, 3) := by decide +kernel
theorem dS3_8 : decode jdk_42_method_149_code 8 = .ok (.aload_n 0, 1) := by decide +kernel
theorem dS3_9 : decode jdk_42_method_149_code 9 = .ok (.ldc 7, 2) := by decide +kernel
theorem dS3_11 : decode jdk_42_method_149_code 11 = .ok (.getfield 9, 3) := by decide +kernel
theorem dS3_14 : decode jdk_42_method_149_code 14 = .ok (.putfield 9, 3) := by decide +kernel
theorem dS3_17 : decode jdk_42_method_149_code 17 = .ok (.aload_n 0, 1) := by decide +kernel
theorem dS3_18 : decode jdk_42_method_149_code 18 = .ok (.ldc 7, 2) := by decide +kernel
theorem dS3_20 : decode jdk_42_method_149_code 20 = .ok (.getfield 15, 3) := by decide +kernel
theorem dS3_23 : decode jdk_42_method_149_code 23 = .ok (.putfield 15, 3) := by decide +kernel
theorem dS3_26 : decode jdk_42_method_149_code 26 = .ok (.return_, 1) := by decide +kernel
theorem dS3_27 : decode jdk_42_method_149_code 27 = .ok (.getstatic 38, 3) := by decide +kernel
theorem dS3_30 : decode jdk_42_method_149_code 30 = .ok (.ifCond .eq 28, 3) := by decide +kernel
theorem dS3_33 : decode jdk_42_method_149_code 33 = .ok (.aload_n 1, 1) := by decide +kernel
theorem dS3_34 : decode jdk_42_method_149_code 34 = .ok (.iload_n 2, 1) := by decide +kernel
theorem dS3_35 : decode jdk_42_method_149_code 35 = .ok (.iload_n 3, 1) := by decide +kernel
theorem dS3_36 : decode jdk_42_method_149_code 36 = .ok (.invokestatic 177, 3) := by decide +kernel
theorem dS3_39 : decode jdk_42_method_149_code 39 = .ok (.astore 5, 2) := by decide +kernel
theorem dS3_41 : decode jdk_42_method_149_code 41 = .ok (.aload_n 0, 1) := by decide +kernel
theorem dS3_42 : decode jdk_42_method_149_code 42 = .ok (.aload 5, 2) := by decide +kernel
theorem dS3_44 : decode jdk_42_method_149_code 44 = .ok (.iload_n 3, 1) := by decide +kernel
theorem dS3_45 : decode jdk_42_method_149_code 45 = .ok (.invokestatic 47, 3) := by decide +kernel
theorem dS3_48 : decode jdk_42_method_149_code 48 = .ok (.putfield 15, 3) := by decide +kernel
theorem dS3_51 : decode jdk_42_method_149_code 51 = .ok (.aload_n 0, 1) := by decide +kernel
theorem dS3_52 : decode jdk_42_method_149_code 52 = .ok (.aload 5, 2) := by decide +kernel
theorem dS3_54 : decode jdk_42_method_149_code 54 = .ok (.putfield 9, 3) := by decide +kernel
theorem dS3_57 : decode jdk_42_method_149_code 57 = .ok (.return_, 1) := by decide +kernel
theorem dS3_58 : decode jdk_42_method_149_code 58 = .ok (.aload_n 0, 1) := by decide +kernel
theorem dS3_59 : decode jdk_42_method_149_code 59 = .ok (.iconst 1, 1) := by decide +kernel
theorem dS3_60 : decode jdk_42_method_149_code 60 = .ok (.putfield 15, 3) := by decide +kernel
theorem dS3_63 : decode jdk_42_method_149_code 63 = .ok (.aload_n 0, 1) := by decide +kernel
theorem dS3_64 : decode jdk_42_method_149_code 64 = .ok (.aload_n 1, 1) := by decide +kernel
theorem dS3_65 : decode jdk_42_method_149_code 65 = .ok (.iload_n 2, 1) := by decide +kernel
theorem dS3_66 : decode jdk_42_method_149_code 66 = .ok (.iload_n 3, 1) := by decide +kernel
theorem dS3_67 : decode jdk_42_method_149_code 67 = .ok (.invokestatic 180, 3) := by decide +kernel
theorem dS3_70 : decode jdk_42_method_149_code 70 = .ok (.putfield 9, 3) := by decide +kernel
theorem dS3_73 : decode jdk_42_method_149_code 73 = .ok (.return_, 1) := by decide +kernel
theorem dS4_0 : decode jdk_42_method_3_code 0 = .ok (.aload_n 0, 1) := by decide +kernel
theorem dS4_1 : decode jdk_42_method_3_code 1 = .ok (.aload_n 1, 1) := by decide +kernel
theorem dS4_2 : decode jdk_42_method_3_code 2 = .ok (.iconst 0, 1) := by decide +kernel
theorem dS4_3 : decode jdk_42_method_3_code 3 = .ok (.aload_n 1, 1) := by decide +kernel
theorem dS4_4 : decode jdk_42_method_3_code 4 = .ok (.arraylength, 1) := by decide +kernel
theorem dS4_5 : decode jdk_42_method_3_code 5 = .ok (.aconst_null, 1) := by decide +kernel
theorem dS4_6 : decode jdk_42_method_3_code 6 = .ok (.invokespecial 27, 3) := by decide +kernel
theorem dS4_9 : decode jdk_42_method_3_code 9 = .ok (.return_, 1) := by decide +kernel
theorem pd___CI_BII_I : parseMethodDescriptor "([CI[BII)I" = some ⟨[(.array .char), .int, (.array .byte), .int, .int], (some .int)⟩ := by decide +kernel
theorem pd___CII__B : parseMethodDescriptor "([CII)[B" = some ⟨[(.array .char), .int, .int], (some (.array .byte))⟩ := by decide +kernel
theorem pd___BI_B : parseMethodDescriptor "([BI)B" = some ⟨[(.array .byte), .int], (some .byte)⟩ := by decide +kernel
theorem pd___CIILjava_lang_Void__V : parseMethodDescriptor "([CIILjava/lang/Void;)V" = some ⟨[(.array .char), .int, .int, (.object "java/lang/Void")], none⟩ := by decide +kernel
theorem pd___C_V : parseMethodDescriptor "([C)V" = some ⟨[(.array .char)], none⟩ := by decide +kernel
theorem pn_java_lang_StringUTF16 : plainName "java/lang/StringUTF16" = true := by first | (simp [plainName, overriddenIn]; done) | decide +kernel
set_option maxRecDepth 65536 in
set_option maxHeartbeats 4000000 in
theorem con_cmp5 (l : Launch) (Z : State) (a0 : Array Value) (hw : ∀ d ∈ tables_1, d.before a0 Z = true) (hEL : EW Z a0 consts_1) (b d : Addr) (kC kB : ClassId) (cs : List Int32) (dv : Value) (n : Nat) (h0 : Heap) (hn : cs.length = n) (hcap : n ≤ 4) (K : Arv Z h0 b kC .char (Int32.ofNat n) (cs.map Value.int) dv) (D : Arv Z h0 d kB .byte (Int32.ofNat n) (List.replicate n (.int 0)) (.int 0)) (hne : b ≠ d) :
    Ocon l Z consts_1 (⟨"java/lang/StringUTF16", "compress", "([CI[BII)I"⟩ : MethodName) jdk_52_method_21_code 7 (some .int) [] ({ frames := 0, cells := 0, slots := 0, locals := 0 } : Room) #[(.ref b), (.int (0 : Int32)), (.ref d), (.int (0 : Int32)), (.int (Int32.ofNat n))] h0 [d] ((List.range 4).map fun i => (⟨d, i⟩ : Loc)) (fun v h _ => ∃ r, r ≤ n ∧ v = some (.int (Int32.ofNat r)) ∧ Keep h0 h [d] ∧ (∀ i, i < r → ¬ (255 : Int32) < cs.getD i 0) ∧ (r < n → (255 : Int32) < cs.getD r 0) ∧ Arv Z h d kB .byte (Int32.ofNat n) (own_cmp cs n r) (.int 0)) := by
  refine own_con (a0 := a0) hEL (plainFor_of_name pn_java_lang_StringUTF16) ?_
  intro p e s m below meth c T hs W0
  have loop : ∀ (kk i : Nat) (T : State) (h : Heap) (s6 : Slot), i + kk = n → (∀ i', i' < i → ¬ (255 : Int32) < cs.getD i' 0) → One s6 → Keep h0 h [d] → Arv Z h b kC .char (Int32.ofNat n) (cs.map Value.int) dv → Arv Z h d kB .byte (Int32.ofNat n) (own_cmp cs n i) (.int 0) → Owk p l e ({ frames := 0, cells := 0, slots := 0, locals := 0 } : Room) s m #[(.ref b), (.int (0 : Int32)), (.ref d), (.int (0 : Int32)), (.int (Int32.ofNat n))] below meth c Z a0 consts_1 ((List.range 4).map fun i => (⟨d, i⟩ : Loc)) "java/lang/StringUTF16" "compress" jdk_52_method_21_code 7 (some .int) T h [d] 0 0 → Ogo p l e ({ frames := 0, cells := 0, slots := 0, locals := 0 } : Room) s m #[(.ref b), (.int (0 : Int32)), (.ref d), (.int (0 : Int32)), (.int (Int32.ofNat n))] below meth c Z a0 consts_1 ((List.range 4).map fun i => (⟨d, i⟩ : Loc)) "java/lang/StringUTF16" "compress" jdk_52_method_21_code 7 (some .int) T (mkF m 3 #[.val (.ref b), .val (.int (Int32.ofNat i)), .val (.ref d), .val (.int (Int32.ofNat i)), .val (.int (Int32.ofNat n)), .val (.int (Int32.ofNat i)), s6] []) (fun v h _ => ∃ r, r ≤ n ∧ v = some (.int (Int32.ofNat r)) ∧ Keep h0 h [d] ∧ (∀ i, i < r → ¬ (255 : Int32) < cs.getD i 0) ∧ (r < n → (255 : Int32) < cs.getD r 0) ∧ Arv Z h d kB .byte (Int32.ofNat n) (own_cmp cs n r) (.int 0)) := by
    intro kk
    induction kk with
    | zero =>
      intro i T h s6 hi hb h6 hK hV hD W0
      obtain rfl : n = i := by omega
      refine g_iload W0 dS0_3 (pc' := 5) rfl rfl ?_
      refine g_iload W0 dS0_5 (pc' := 7) rfl rfl ?_
      refine g_icY W0 dS0_7 (pc' := 44) (flt Int32.lt_irrefl).2.1 (by decide) (by decide) ?_
      refine g_iload W0 dS0_44 (pc' := 46) rfl rfl ?_
      exact g_iret W0 dS0_46 rfl (Or.inl rfl) rfl ⟨n, Nat.le_refl _, rfl, hK, hb, fun q => absurd q (Nat.lt_irrefl _), hD⟩
    | succ kk ih =>
      intro i T h s6 hi hb h6 hK hV hD W0
      have hin : i < n := by omega
      have hlt := own_lt (by omega) hin
      have hcl : (Int32.ofNat n).toNatClampNeg = n := own_clamp (by omega)
      refine g_iload W0 dS0_3 (pc' := 5) rfl rfl ?_
      refine g_iload W0 dS0_5 (pc' := 7) rfl rfl ?_
      refine g_icN W0 dS0_7 (pc' := 10) (tlt hlt).2.1 rfl ?_
      refine g_aloadN W0 dS0_10 (pc' := 11) rfl rfl rfl ?_
      refine g_iloadN W0 dS0_11 (pc' := 12) rfl rfl ?_
      refine g_caload W0 dS0_12 (pc' := 13) rfl hV (i := i) rfl (by rw [hcl]; exact hin) (v := (.int (cs.getD i 0))) (own_getI cs dv (by omega)) ?_
      refine g_istore W0 dS0_13 (pc' := 15) (ls' := #[.val (.ref b), .val (.int (Int32.ofNat i)), .val (.ref d), .val (.int (Int32.ofNat i)), .val (.int (Int32.ofNat n)), .val (.int (Int32.ofNat i)), .val (.int (cs.getD i 0))]) rfl (XS.store1 (o := s6) rfl h6 rfl) ?_
      refine g_iload W0 dS0_15 (pc' := 17) rfl rfl ?_
      refine g_sipush W0 dS0_17 (pc' := 20) rfl (v := 255) rfl ?_
      by_cases c1 : (255 : Int32) < (cs.getD i 0)
      · skip
        refine g_icN W0 dS0_20 (pc' := 23) (tlt c1).2.2.2 rfl ?_
        refine g_iload W0 dS0_23 (pc' := 25) rfl rfl ?_
        exact g_iret W0 dS0_25 rfl (Or.inl rfl) rfl ⟨i, Nat.le_of_lt hin, rfl, hK, hb, fun _ => by assumption, hD⟩
      · skip
        refine g_icY W0 dS0_20 (pc' := 26) (flt c1).2.2.2 (by decide) (by decide) ?_
        refine g_aloadN W0 dS0_26 (pc' := 27) rfl rfl rfl ?_
        refine g_iloadN W0 dS0_27 (pc' := 28) rfl rfl ?_
        refine g_iload W0 dS0_28 (pc' := 30) rfl rfl ?_
        refine g_i2b W0 dS0_30 (pc' := 31) rfl ?_
        refine g_bastore W0 dS0_31 (pc' := 32) rfl hD (i := i) rfl (by rw [hcl]; exact hin) (by rw [own_cmplen cs hn (by omega)]; exact hin) (own_lo8 _) (own_cmpset cs hn hin) (by simp) (Or.inl (by simp; omega)) ?_
        intro T2 h3 w4 A5 W6
        refine g_iinc W6 dS0_32 (pc' := 35) (v := Int32.ofNat (i + 1)) (ls' := #[.val (.ref b), .val (.int (Int32.ofNat (i + 1))), .val (.ref d), .val (.int (Int32.ofNat i)), .val (.int (Int32.ofNat n)), .val (.int (Int32.ofNat i)), .val (.int (cs.getD i 0))]) rfl rfl (own_succ i) rfl ?_
        refine g_iinc W6 dS0_35 (pc' := 38) (v := Int32.ofNat (i + 1)) (ls' := #[.val (.ref b), .val (.int (Int32.ofNat (i + 1))), .val (.ref d), .val (.int (Int32.ofNat (i + 1))), .val (.int (Int32.ofNat n)), .val (.int (Int32.ofNat i)), .val (.int (cs.getD i 0))]) rfl rfl (own_succ i) rfl ?_
        refine g_iinc W6 dS0_38 (pc' := 41) (v := Int32.ofNat (i + 1)) (ls' := #[.val (.ref b), .val (.int (Int32.ofNat (i + 1))), .val (.ref d), .val (.int (Int32.ofNat (i + 1))), .val (.int (Int32.ofNat n)), .val (.int (Int32.ofNat (i + 1))), .val (.int (cs.getD i 0))]) rfl rfl (own_succ i) rfl ?_
        refine g_goto W6 dS0_41 (pc' := 3) (by decide) (by decide) ?_
        refine ih (i + 1) T2 h3 _ (by omega) (fun i' hi' => ?_) (One.val rfl) (hK.wr w4 (Or.inl (by simp))) (hV.other w4 hne) A5 W6
        by_cases q : i' = i
        · subst q; exact c1
        · exact hb i' (by omega)
  have ef : entryFrame m #[(.ref b), (.int (0 : Int32)), (.ref d), (.int (0 : Int32)), (.int (Int32.ofNat n))] 7 = mkF m 0 #[.val (.ref b), .val (.int (0 : Int32)), .val (.ref d), .val (.int (0 : Int32)), .val (.int (Int32.ofNat n)), .unset, .unset] [] := by first | rfl | (simp [entryFrame, mkF, argsToLocals, Value.category]; done)
  rw [ef]
  refine g_iconst W0 dS0_0 (pc' := 1) rfl (v := 0) rfl ?_
  refine g_istore W0 dS0_1 (pc' := 3) rfl (ls' := #[.val (.ref b), .val (.int (0 : Int32)), .val (.ref d), .val (.int (0 : Int32)), .val (.int (Int32.ofNat n)), .val (.int (0 : Int32)), .unset]) rfl ?_
  exact loop n 0 T h0 .unset (by omega) (fun i' hi' => absurd hi' (Nat.not_lt_zero _)) One.u (Keep.refl _ _) K (by rw [own_cmp0]; exact D) W0
set_option maxRecDepth 65536 in
set_option maxHeartbeats 4000000 in
theorem con_cmp3 (l : Launch) (Z : State) (a0 : Array Value) (hw : ∀ d ∈ tables_1, d.before a0 Z = true) (hEL : EW Z a0 consts_1) (b : Addr) (kC : ClassId) (cs : List Int32) (dv : Value) (n : Nat) (h0 : Heap) (O : Ext Z.heap h0)  (hn : cs.length = n) (hcap : n ≤ 4) (K : Arv Z h0 b kC .char (Int32.ofNat n) (cs.map Value.int) dv) (hb : ∀ c ∈ cs, ¬ c < 0 ∧ ¬ (65535 : Int32) < c) (hp : ∀ c ∈ cs, ¬ (255 : Int32) < c) :
    Ocon l Z consts_1 (⟨"java/lang/StringUTF16", "compress", "([CII)[B"⟩ : MethodName) jdk_52_method_16_code 6 (some (.array .byte)) [] ({ frames := 1, cells := 1, slots := 4, locals := 18 } : Room) #[(.ref b), (.int (0 : Int32)), (.int (Int32.ofNat n))] h0 [] [] (fun v h _ => ∃ (t : Addr) (kb : ClassId) (cd N2 : Int32) (vs : List Value), v = some (.ref t) ∧ Ext h0 h ∧ h0.size ≤ t ∧ Arv Z h t kb .byte N2 vs (.int 0) ∧ StrChars.Road.CodA cs cd N2 vs) := by
  refine own_con (a0 := a0) hEL (plainFor_of_name pn_java_lang_StringUTF16) ?_
  intro p e s m below meth c T hs W0
  have ef : entryFrame m #[(.ref b), (.int (0 : Int32)), (.int (Int32.ofNat n))] 6 = mkF m 0 #[.val (.ref b), .val (.int (0 : Int32)), .val (.int (Int32.ofNat n)), .unset, .unset, .unset] [] := by first | rfl | (simp [entryFrame, mkF, argsToLocals, Value.category]; done)
  rw [ef]
  have hcl : (Int32.ofNat n).toNatClampNeg = n := own_clamp (by omega)
  have hcl2 : (Int32.ofNat (2 * n)).toNatClampNeg = 2 * n := own_clamp (by omega)
  refine g_iloadN W0 dS1_0 (pc' := 1) rfl rfl ?_
  refine g_newP W0 dS1_1 (pc' := 3) (cap := 4) rfl (ty := .byte) (dv := (.int 0)) rfl rfl (hw _ (List.mem_of_getElem? (i := 23) rfl)) (own_nn (by omega)) (by rw [hcl]; exact hcap) (by decide) (by decide) (by decide) ?_
  intro T7 h8 cA9 E10 A11 W12
  obtain ⟨a13, g14⟩ : ∃ z, z = h0.size := ⟨_, rfl⟩
  rw [← g14] at A11 W12 ⊢
  refine g_astoreN W12 dS1_3 (pc' := 4) rfl (ls' := #[.val (.ref b), .val (.int (0 : Int32)), .val (.int (Int32.ofNat n)), .val (.ref a13), .unset, .unset]) rfl rfl ?_
  refine g_aloadN W12 dS1_4 (pc' := 5) rfl rfl rfl ?_
  refine g_iloadN W12 dS1_5 (pc' := 6) rfl rfl ?_
  refine g_aloadN W12 dS1_6 (pc' := 7) rfl rfl rfl ?_
  refine g_iconst W12 dS1_7 (pc' := 8) rfl (v := 0) rfl ?_
  refine g_iloadN W12 dS1_8 (pc' := 9) rfl rfl ?_
  have hne : b ≠ a13 := Nat.ne_of_lt (by rw [g14]; exact K.lt)
  refine g_static W12 dS1_9 (pc' := 12) rfl (hw _ (List.mem_of_getElem? (i := 24) rfl)) (hw _ (List.mem_of_getElem? (i := 25) rfl)) (hw _ (List.mem_of_getElem? (i := 21) rfl)) (hw _ (List.mem_of_getElem? (i := 26) rfl)) (by decide) (con_cmp5 l Z a0 hw hEL b a13 kC cA9 cs dv n h8 hn hcap (K.ext E10) (own_pad0 n A11) hne) pd___CI_BII_I (argsL := [(.ref b), (.int (0 : Int32)), (.ref a13), (.int (0 : Int32)), (.int (Int32.ofNat n))]) (st := []) rfl rfl rfl rfl (by decide) (w := 0) (Nat.le_of_eq rfl) (by decide) (by decide) (by decide) (by simp) (fun q hq => Or.inr (by obtain ⟨i, -, rfl⟩ := List.mem_map.mp hq; show s.heap.size ≤ a13; rw [g14]; exact W0.grown)) ?_
  intro v15 T16 h17 S20 q18 W21
  have W19 := W21.sf (SF' := [a13]) (fun _ hx => List.mem_append_right _ hx)
  obtain ⟨r, hr1, rfl, hK, hr2, hr3, hD⟩ := q18
  have X1 : Ext h0 h17 := own_ext_keep E10 hK (by intro x hx; rw [List.mem_singleton.mp hx, g14]; exact Nat.le_refl _)
  refine g_istore W19 dS1_12 (pc' := 14) rfl (ls' := #[.val (.ref b), .val (.int (0 : Int32)), .val (.int (Int32.ofNat n)), .val (.ref a13), .val (.int (Int32.ofNat r)), .unset]) rfl ?_
  refine g_iload W19 dS1_14 (pc' := 16) rfl rfl ?_
  refine g_iloadN W19 dS1_16 (pc' := 17) rfl rfl ?_
  rcases Nat.lt_or_ge r n with hrn | hrn
  · skip
    exact absurd (hr3 hrn) (hp _ (own_mem (by omega)))
  · skip
    obtain rfl : n = r := by omega
    refine g_icY W19 dS1_17 (pc' := 57) (teq rfl).1 (by decide) (by decide) ?_
    rw [own_cmpn cs hn] at hD
    refine g_aloadN W19 dS1_57 (pc' := 58) rfl rfl rfl ?_
    exact g_aret W19 dS1_58 rfl rfl rfl rfl ⟨a13, _, 0, _, _, rfl, X1, (by first | exact Nat.le_refl _ | exact Nat.le_of_eq g14.symm), hD, Or.inl ⟨rfl, by rw [hn], rfl, fun c hc => own_all hn hr2 c hc⟩⟩
set_option maxRecDepth 65536 in
set_option maxHeartbeats 4000000 in
theorem con_cod (l : Launch) (Z : State) (a0 : Array Value) (hw : ∀ d ∈ tables_1, d.before a0 Z = true) (hEL : EW Z a0 consts_1) (t : Addr) (kb : ClassId) (cs : List Int32) (cd N2 : Int32) (vs : List Value) (dv : Value) (n : Nat) (h0 : Heap) (hn : cs.length = n) (hcap : n ≤ 4) (K : Arv Z h0 t kb .byte N2 vs dv) (hc : StrChars.Road.CodA cs cd N2 vs) :
    Ocon l Z consts_1 (⟨"java/lang/StringUTF16", "coderFromArrayLen", "([BI)B"⟩ : MethodName) jdk_52_method_15_code 2 (some .byte) [] ({ frames := 0, cells := 0, slots := 0, locals := 0 } : Room) #[(.ref t), (.int (Int32.ofNat n))] h0 [] [] (fun v h _ => v = some (.int cd) ∧ (cd = 0 ∨ cd = 1) ∧ h0 = h) := by
  refine own_con (a0 := a0) hEL (plainFor_of_name pn_java_lang_StringUTF16) ?_
  intro p e s m below meth c T hs W0
  have ef : entryFrame m #[(.ref t), (.int (Int32.ofNat n))] 2 = mkF m 0 #[.val (.ref t), .val (.int (Int32.ofNat n))] [] := by first | rfl | (simp [entryFrame, mkF, argsToLocals, Value.category]; done)
  rw [ef]
  refine g_iloadN W0 dS2_0 (pc' := 1) rfl rfl ?_
  refine g_aloadN W0 dS2_1 (pc' := 2) rfl rfl rfl ?_
  refine g_alen W0 dS2_2 (pc' := 3) rfl K ?_
  refine g_isub W0 dS2_3 (pc' := 4) rfl ?_
  refine g_bipush W0 dS2_4 (pc' := 6) rfl (v := 31) rfl ?_
  refine g_iushr W0 dS2_6 (pc' := 7) rfl ?_
  refine g_i2b W0 dS2_7 (pc' := 8) rfl ?_
  rcases hc with ⟨rfl, rfl, -, -⟩ | ⟨rfl, rfl, -, c1, hc1, -⟩
  · skip
    rw [show ((XT.ushr ((Int32.ofNat n) - (Int32.ofNat cs.length)) (31 : Int32))).toInt8.toInt32 = 0 from by rw [hn, Int32.sub_self]; decide]
    exact g_iret W0 dS2_8 rfl (Or.inr (Or.inr (Or.inl rfl))) rfl ⟨rfl, Or.inl rfl, rfl⟩
  · skip
    rw [show ((XT.ushr ((Int32.ofNat n) - (Int32.ofNat (2 * cs.length))) (31 : Int32))).toInt8.toInt32 = 1 from by subst hn; exact own_neg (List.length_pos_of_mem hc1) (by omega)]
    exact g_iret W0 dS2_8 rfl (Or.inr (Or.inr (Or.inl rfl))) rfl ⟨rfl, Or.inr rfl, rfl⟩
theorem pn_java_lang_String : plainName "java/lang/String" = true := by first | (simp [plainName, overriddenIn]; done) | decide +kernel
set_option maxRecDepth 65536 in
set_option maxHeartbeats 4000000 in
theorem con_new4 (l : Launch) (Z : State) (a0 : Array Value) (hw : ∀ d ∈ tables_1, d.before a0 Z = true) (hEL : EW Z a0 consts_1) (x b : Addr) (kC : ClassId) (cs : List Int32) (dv v0 c0 : Value) (z : Int32) (n : Nat) (h0 : Heap) (O : Ext Z.heap h0) (hp : ∀ c ∈ cs, ¬ (255 : Int32) < c) (hx : Z.heap.size ≤ x) (hn : cs.length = n) (hcap : n ≤ 4) (E : Exa Z h0 x "java/lang/String") (FV : Fld Z h0 x "java/lang/String" "value" "[B" v0) (FC : Fld Z h0 x "java/lang/String" "coder" "B" c0) (K : Arv Z h0 b kC .char (Int32.ofNat n) (cs.map Value.int) dv) (hb : ∀ c ∈ cs, ¬ c < 0 ∧ ¬ (65535 : Int32) < c) (SC : Sta Z Z.heap "java/lang/String" "COMPACT_STRINGS" "Z" (.int z)) (hz : ¬ z = 0) :
    Ocon l Z consts_1 (⟨"java/lang/String", "<init>", "([CIILjava/lang/Void;)V"⟩ : MethodName) jdk_42_method_149_code 6 none [] ({ frames := 2, cells := 4, slots := 12, locals := 35 } : Room) #[(.ref x), (.ref b), (.int (0 : Int32)), (.int (Int32.ofNat n)), .null] h0 [x] [(⟨x, RoadKit.slotOf Z "java/lang/String" "coder" "B"⟩ : Loc), (⟨x, RoadKit.slotOf Z "java/lang/String" "value" "[B"⟩ : Loc)] (fun v h _ => v = none ∧ Keep h0 h [x] ∧ OStr Z h x cs) := by
  refine own_con (a0 := a0) hEL (plainFor_of_name pn_java_lang_String) ?_
  intro p e s m below meth c T hs W0
  have ef : entryFrame m #[(.ref x), (.ref b), (.int (0 : Int32)), (.int (Int32.ofNat n)), .null] 6 = mkF m 0 #[.val (.ref x), .val (.ref b), .val (.int (0 : Int32)), .val (.int (Int32.ofNat n)), .val .null, .unset] [] := by first | rfl | (simp [entryFrame, mkF, argsToLocals, Value.category]; done)
  rw [ef]
  have hsl : RoadKit.slotOf Z "java/lang/String" "value" "[B" ≠ RoadKit.slotOf Z "java/lang/String" "coder" "B" := slot_ne (t := .array .byte) (t' := .byte) (Or.inr (hw _ (List.mem_of_getElem? (i := 33) rfl))) (Or.inr (hw _ (List.mem_of_getElem? (i := 31) rfl))) (by decide) (by decide) (by decide)
  have hSt : ∀ a ∈ Bundle.stringAtoms, a.before a0 Z = true := own_str hw
  refine g_aloadN W0 dS3_0 (pc' := 1) rfl rfl rfl ?_
  refine g_initO W0 dS3_1 (pc' := 4) rfl (hw _ (List.mem_of_getElem? (i := 15) rfl)) (hw _ (List.mem_of_getElem? (i := 16) rfl)) (hw _ (List.mem_of_getElem? (i := 17) rfl)) rfl (by decide) (w := 0) (Nat.le_refl _) (by decide) ?_
  intro T22 W23
  refine g_iloadN W23 dS3_4 (pc' := 5) rfl rfl ?_
  rcases Nat.eq_zero_or_pos n with hn0 | hn0
  · skip
    subst hn0
    obtain rfl : cs = [] := List.length_eq_zero_iff.mp hn
    refine g_ifN W23 dS3_5 (pc' := 8) (teq (rfl : Int32.ofNat 0 = 0)).2 rfl ?_
    refine g_aloadN W23 dS3_8 (pc' := 9) rfl rfl rfl ?_
    refine g_ldcS W23 dS3_9 (pc' := 11) (text := "") (vs := []) (z := 0) (n := 0) rfl (hw _ (List.mem_of_getElem? (i := 34) rfl)) hSt (by decide) ⟨by decide, rfl⟩ (by decide) rfl (by decide) (by decide) (by decide) (by decide) ?_
    intro T24 h25 a26 b27 k28 E29 f30 f31 f32 f33 W34
    refine g_getF W34 dS3_11 (pc' := 14) rfl (hw _ (List.mem_of_getElem? (i := 32) rfl)) f32 ?_
    intro T36 W35
    refine g_putF W35 dS3_14 (pc' := 17) rfl (hw _ (List.mem_of_getElem? (i := 32) rfl)) (FV.ext E29) (E.ext E29) (Or.inr ⟨(hw _ (List.mem_of_getElem? (i := 33) rfl)), rfl, rfl⟩) (hw _ (List.mem_of_getElem? (i := 6) rfl)) (ty := .array .byte) (by decide) rfl rfl (by simp) (Or.inl (by simp)) ?_
    intro T37 h38 w39 W40
    refine g_aloadN W40 dS3_17 (pc' := 18) rfl rfl rfl ?_
    refine g_ldcS W40 dS3_18 (pc' := 20) (text := "") (vs := []) (z := 0) (n := 0) rfl (hw _ (List.mem_of_getElem? (i := 34) rfl)) hSt (by decide) ⟨by decide, rfl⟩ (by decide) rfl (by decide) (by decide) (by decide) (by decide) ?_
    intro T41 h42 a43 b44 k45 E46 f47 f48 f49 f50 W51
    refine g_getF W51 dS3_20 (pc' := 23) rfl (hw _ (List.mem_of_getElem? (i := 30) rfl)) f48 ?_
    intro T53 W52
    refine g_putF W52 dS3_23 (pc' := 26) rfl (hw _ (List.mem_of_getElem? (i := 30) rfl)) (((FC.ext E29).other w39 (Or.inr (Ne.symm hsl))).ext E46) (((E.ext E29).wr w39).ext E46) (Or.inr ⟨(hw _ (List.mem_of_getElem? (i := 31) rfl)), rfl, rfl⟩) (hw _ (List.mem_of_getElem? (i := 6) rfl)) (ty := .byte) (by decide) rfl rfl (by simp) (Or.inl (by simp)) ?_
    intro T54 h55 w56 W57
    have hne1 : b27 ≠ x := by
      obtain ⟨cl, A1, -⟩ := f33
      exact Ne.symm (ne_arr (E.ext E29) (hw _ (List.mem_of_getElem? (i := 6) rfl)) A1)
    exact g_return W57 dS3_26 rfl ⟨rfl, (((own_keep_ext E29).wr w39 (Or.inl (by simp))).ext E46).wr w56 (Or.inl (by simp)), (((E.ext E29).wr w39).ext E46).wr w56, fun c hc => (nomatch hc), b27, k28, 0, 0, [], ((((FV.ext E29).same w39).ext E46).other w56 (Or.inr hsl)), (((FC.ext E29).other w39 (Or.inr (Ne.symm hsl))).ext E46).same w56, ((f33.other w39 hne1).ext E46).other w56 hne1, Or.inl ⟨rfl, rfl, rfl, fun c hc => (nomatch hc)⟩⟩
  · skip
    have hnz : ¬ Int32.ofNat n = 0 := Jvm.Free.XT.nz32 (by omega) hn0
    refine g_ifY W23 dS3_5 (pc' := 27) (feq hnz).2 (by decide) (by decide) ?_
    refine g_getS W23 dS3_27 (pc' := 30) rfl (hw _ (List.mem_of_getElem? (i := 18) rfl)) (SC.ext O) ?_
    intro T59 W58
    refine g_ifN W58 dS3_30 (pc' := 33) (feq hz).1 rfl ?_
    refine g_aloadN W58 dS3_33 (pc' := 34) rfl rfl rfl ?_
    refine g_iloadN W58 dS3_34 (pc' := 35) rfl rfl ?_
    refine g_iloadN W58 dS3_35 (pc' := 36) rfl rfl ?_
    refine g_static W58 dS3_36 (pc' := 39) rfl (hw _ (List.mem_of_getElem? (i := 19) rfl)) (hw _ (List.mem_of_getElem? (i := 20) rfl)) (hw _ (List.mem_of_getElem? (i := 21) rfl)) (hw _ (List.mem_of_getElem? (i := 22) rfl)) (by decide) (con_cmp3 l Z a0 hw hEL b kC cs dv n h0 O hn hcap K hb hp) pd___CII__B (argsL := [(.ref b), (.int (0 : Int32)), (.int (Int32.ofNat n))]) (st := []) rfl rfl rfl rfl (by decide) (w := 0) (Nat.le_of_eq rfl) (by decide) (by decide) (by decide) (by simp) (fun q hq => nomatch hq) ?_
    intro v60 T61 h62 S65 q63 W66
    have W64 := W66.sf (SF' := [x]) (fun _ hx => List.mem_append_right _ hx)
    obtain ⟨t, kb, cd, N2, vs, rfl, X, nt, A, CA⟩ := q63
    refine g_astore W64 dS3_39 (pc' := 41) rfl (ls' := #[.val (.ref x), .val (.ref b), .val (.int (0 : Int32)), .val (.int (Int32.ofNat n)), .val .null, .val (.ref t)]) rfl rfl ?_
    refine g_aloadN W64 dS3_41 (pc' := 42) rfl rfl rfl ?_
    refine g_aload W64 dS3_42 (pc' := 44) rfl rfl rfl ?_
    refine g_iloadN W64 dS3_44 (pc' := 45) rfl rfl ?_
    refine g_static W64 dS3_45 (pc' := 48) rfl (hw _ (List.mem_of_getElem? (i := 27) rfl)) (hw _ (List.mem_of_getElem? (i := 28) rfl)) (hw _ (List.mem_of_getElem? (i := 21) rfl)) (hw _ (List.mem_of_getElem? (i := 29) rfl)) (by decide) (con_cod l Z a0 hw hEL t kb cs cd N2 vs _ n h62 hn hcap A CA) pd___BI_B (argsL := [(.ref t), (.int (Int32.ofNat n))]) (st := [(.ref x)]) rfl rfl rfl rfl (by decide) (w := 1) (Nat.le_of_eq rfl) (by decide) (by decide) (by decide) (by simp) (fun q hq => nomatch hq) ?_
    intro v67 T68 h69 S72 q70 W73
    have W71 := W73.sf (SF' := [x]) (fun _ hx => List.mem_append_right _ hx)
    obtain ⟨rfl, hcd, rfl⟩ := q70
    have hnx : t ≠ x := Nat.ne_of_gt (Nat.lt_of_lt_of_le E.lt nt)
    refine g_putF W71 dS3_48 (pc' := 51) rfl (hw _ (List.mem_of_getElem? (i := 30) rfl)) (FC.ext X) (E.ext X) (Or.inr ⟨(hw _ (List.mem_of_getElem? (i := 31) rfl)), rfl, rfl⟩) (hw _ (List.mem_of_getElem? (i := 6) rfl)) (ty := .byte) (by decide) (by rcases hcd with rfl | rfl <;> rfl) (by rcases hcd with rfl | rfl <;> rfl) (by simp) (Or.inl (by simp)) ?_
    intro T74 h75 w76 W77
    refine g_aloadN W77 dS3_51 (pc' := 52) rfl rfl rfl ?_
    refine g_aload W77 dS3_52 (pc' := 54) rfl rfl rfl ?_
    refine g_putF W77 dS3_54 (pc' := 57) rfl (hw _ (List.mem_of_getElem? (i := 32) rfl)) ((FV.ext X).other w76 (Or.inr hsl)) ((E.ext X).wr w76) (Or.inr ⟨(hw _ (List.mem_of_getElem? (i := 33) rfl)), rfl, rfl⟩) (hw _ (List.mem_of_getElem? (i := 6) rfl)) (ty := .array .byte) (by decide) rfl rfl (by simp) (Or.inl (by simp)) ?_
    intro T78 h79 w80 W81
    exact g_return W81 dS3_57 rfl ⟨rfl, ((own_keep_ext X).wr w76 (Or.inl (by simp))).wr w80 (Or.inl (by simp)), ((E.ext X).wr w76).wr w80, hb, t, kb, cd, N2, vs, ((FV.ext X).other w76 (Or.inr hsl)).same w80, ((FC.ext X).same w76).other w80 (Or.inr (Ne.symm hsl)), (A.other w76 hnx).other w80 hnx, CA⟩
set_option maxRecDepth 65536 in
set_option maxHeartbeats 4000000 in
theorem con_new1 (l : Launch) (Z : State) (a0 : Array Value) (hw : ∀ d ∈ tables_1, d.before a0 Z = true) (hEL : EW Z a0 consts_1) (x b : Addr) (kC : ClassId) (cs : List Int32) (dv v0 c0 : Value) (z : Int32) (n : Nat) (h0 : Heap) (O : Ext Z.heap h0) (hp : ∀ c ∈ cs, ¬ (255 : Int32) < c) (hx : Z.heap.size ≤ x) (hn : cs.length = n) (hcap : n ≤ 4) (E : Exa Z h0 x "java/lang/String") (FV : Fld Z h0 x "java/lang/String" "value" "[B" v0) (FC : Fld Z h0 x "java/lang/String" "coder" "B" c0) (K : Arv Z h0 b kC .char (Int32.ofNat n) (cs.map Value.int) dv) (hb : ∀ c ∈ cs, ¬ c < 0 ∧ ¬ (65535 : Int32) < c) (SC : Sta Z Z.heap "java/lang/String" "COMPACT_STRINGS" "Z" (.int z)) (hz : ¬ z = 0) :
    Ocon l Z consts_1 (⟨"java/lang/String", "<init>", "([C)V"⟩ : MethodName) jdk_42_method_3_code 2 none [] ({ frames := 3, cells := 4, slots := 12, locals := 52 } : Room) #[(.ref x), (.ref b)] h0 [x] [(⟨x, RoadKit.slotOf Z "java/lang/String" "coder" "B"⟩ : Loc), (⟨x, RoadKit.slotOf Z "java/lang/String" "value" "[B"⟩ : Loc)] (fun v h _ => v = none ∧ Keep h0 h [x] ∧ OStr Z h x cs) := by
  refine own_con (a0 := a0) hEL (plainFor_of_name pn_java_lang_String) ?_
  intro p e s m below meth c T hs W0
  have ef : entryFrame m #[(.ref x), (.ref b)] 2 = mkF m 0 #[.val (.ref x), .val (.ref b)] [] := by first | rfl | (simp [entryFrame, mkF, argsToLocals, Value.category]; done)
  rw [ef]
  refine g_aloadN W0 dS4_0 (pc' := 1) rfl rfl rfl ?_
  refine g_aloadN W0 dS4_1 (pc' := 2) rfl rfl rfl ?_
  refine g_iconst W0 dS4_2 (pc' := 3) rfl (v := 0) rfl ?_
  refine g_aloadN W0 dS4_3 (pc' := 4) rfl rfl rfl ?_
  refine g_alen W0 dS4_4 (pc' := 5) rfl K ?_
  refine g_aconst_null W0 dS4_5 (pc' := 6) rfl ?_
  refine g_special W0 dS4_6 (pc' := 9) rfl rfl (hw _ (List.mem_of_getElem? (i := 11) rfl)) (hw _ (List.mem_of_getElem? (i := 12) rfl)) (hw _ (List.mem_of_getElem? (i := 7) rfl)) (hw _ (List.mem_of_getElem? (i := 14) rfl)) (by decide) (con_new4 l Z a0 hw hEL x b kC cs dv v0 c0 z n h0 O hp hx hn hcap E FV FC K hb SC hz) pd___CIILjava_lang_Void__V (argsL := [(.ref b), (.int (0 : Int32)), (.int (Int32.ofNat n)), .null]) (st := []) rfl rfl rfl rfl (by decide) (w := 0) (Nat.le_of_eq rfl) (by decide) (by decide) (by decide) (by simp) (fun q hq => Or.inl hq) ?_
  intro v82 T83 h84 S87 q85 W88
  have W86 := W88.sf (SF' := [x]) (fun _ hx => List.mem_append_right _ hx)
  obtain ⟨rfl, qK, qS⟩ := q85
  exact g_return W86 dS4_9 rfl ⟨rfl, qK, qS⟩
theorem dQ0_0 : decode method_3_code 0 = .ok (.iload_n 1, 1) := by decide +kernel
theorem dQ0_1 : decode method_3_code 1 = .ok (.ifCond .ne 14, 3) := by decide +kernel
theorem dQ0_4 : decode method_3_code 4 = .ok (.new 34, 3) := by decide +kernel
theorem dQ0_7 : decode method_3_code 7 = .ok (.dup, 1) := by decide +kernel
theorem dQ0_8 : decode method_3_code 8 = .ok (.iconst 0, 1) := by decide +kernel
theorem dQ0_9 : decode method_3_code 9 = .ok (.newarray .char, 2) := by decide +kernel
theorem dQ0_11 : decode method_3_code 11 = .ok (.invokespecial 36, 3) := by decide +kernel
theorem dQ0_14 : decode method_3_code 14 = .ok (.areturn, 1) := by decide +kernel
theorem dQ0_15 : decode method_3_code 15 = .ok (.iload_n 1, 1) := by decide +kernel
theorem dQ0_16 : decode method_3_code 16 = .ok (.iconst 1, 1) := by decide +kernel
theorem dQ0_17 : decode method_3_code 17 = .ok (.if_icmp .ne 20, 3) := by decide +kernel
theorem dQ0_20 : decode method_3_code 20 = .ok (.new 34, 3) := by decide +kernel
theorem dQ0_23 : decode method_3_code 23 = .ok (.dup, 1) := by decide +kernel
theorem dQ0_24 : decode method_3_code 24 = .ok (.iconst 1, 1) := by decide +kernel
theorem dQ0_25 : decode method_3_code 25 = .ok (.newarray .char, 2) := by decide +kernel
theorem dQ0_27 : decode method_3_code 27 = .ok (.dup, 1) := by decide +kernel
theorem dQ0_28 : decode method_3_code 28 = .ok (.iconst 0, 1) := by decide +kernel
theorem dQ0_29 : decode method_3_code 29 = .ok (.aload_n 0, 1) := by decide +kernel
theorem dQ0_30 : decode method_3_code 30 = .ok (.iconst 0, 1) := by decide +kernel
theorem dQ0_31 : decode method_3_code 31 = .ok (.caload, 1) := by decide +kernel
theorem dQ0_32 : decode method_3_code 32 = .ok (.castore, 1) := by decide +kernel
theorem dQ0_33 : decode method_3_code 33 = .ok (.invokespecial 36, 3) := by decide +kernel
theorem dQ0_36 : decode method_3_code 36 = .ok (.areturn, 1) := by decide +kernel
theorem dQ0_37 : decode method_3_code 37 = .ok (.iload_n 1, 1) := by decide +kernel
theorem dQ0_38 : decode method_3_code 38 = .ok (.iconst 2, 1) := by decide +kernel
theorem dQ0_39 : decode method_3_code 39 = .ok (.if_icmp .ne 26, 3) := by decide +kernel
theorem dQ0_42 : decode method_3_code 42 = .ok (.new 34, 3) := by decide +kernel
theorem dQ0_45 : decode method_3_code 45 = .ok (.dup, 1) := by decide +kernel
theorem dQ0_46 : decode method_3_code 46 = .ok (.iconst 2, 1) := by decide +kernel
theorem dQ0_47 : decode method_3_code 47 = .ok (.newarray .char, 2) := by decide +kernel
theorem dQ0_49 : decode method_3_code 49 = .ok (.dup, 1) := by decide +kernel
theorem dQ0_50 : decode method_3_code 50 = .ok (.iconst 0, 1) := by decide +kernel
theorem dQ0_51 : decode method_3_code 51 = .ok (.aload_n 0, 1) := by decide +kernel
theorem dQ0_52 : decode method_3_code 52 = .ok (.iconst 0, 1) := by decide +kernel
theorem dQ0_53 : decode method_3_code 53 = .ok (.caload, 1) := by decide +kernel
theorem dQ0_54 : decode method_3_code 54 = .ok (.castore, 1) := by decide +kernel
theorem dQ0_55 : decode method_3_code 55 = .ok (.dup, 1) := by decide +kernel
theorem dQ0_56 : decode method_3_code 56 = .ok (.iconst 1, 1) := by decide +kernel
theorem dQ0_57 : decode method_3_code 57 = .ok (.aload_n 0, 1) := by decide +kernel
theorem dQ0_58 : decode method_3_code 58 = .ok (.iconst 1, 1) := by decide +kernel
theorem dQ0_59 : decode method_3_code 59 = .ok (.caload, 1) := by decide +kernel
theorem dQ0_60 : decode method_3_code 60 = .ok (.castore, 1) := by decide +kernel
theorem dQ0_61 : decode method_3_code 61 = .ok (.invokespecial 36, 3) := by decide +kernel
theorem dQ0_64 : decode method_3_code 64 = .ok (.areturn, 1) := by decide +kernel
theorem dQ0_65 : decode method_3_code 65 = .ok (.iload_n 1, 1) := by decide +kernel
theorem dQ0_66 : decode method_3_code 66 = .ok (.iconst 3, 1) := by decide +kernel
theorem dQ0_67 : decode method_3_code 67 = .ok (.if_icmp .ne 32, 3) := by decide +kernel
theorem dQ0_70 : decode method_3_code 70 = .ok (.new 34, 3) := by decide +kernel
theorem dQ0_73 : decode method_3_code 73 = .ok (.dup, 1) := by decide +kernel
theorem dQ0_74 : decode method_3_code 74 = .ok (.iconst 3, 1) := by decide +kernel
theorem dQ0_75 : decode method_3_code 75 = .ok (.newarray .char, 2) := by decide +kernel
theorem dQ0_77 : decode method_3_code 77 = .ok (.dup, 1) := by decide +kernel
theorem dQ0_78 : decode method_3_code 78 = .ok (.iconst 0, 1) := by decide +kernel
theorem dQ0_79 : decode method_3_code 79 = .ok (.aload_n 0, 1) := by decide +kernel
theorem dQ0_80 : decode method_3_code 80 = .ok (.iconst 0, 1) := by decide +kernel
theorem dQ0_81 : decode method_3_code 81 = .ok (.caload, 1) := by decide +kernel
theorem dQ0_82 : decode method_3_code 82 = .ok (.castore, 1) := by decide +kernel
theorem dQ0_83 : decode method_3_code 83 = .ok (.dup, 1) := by decide +kernel
theorem dQ0_84 : decode method_3_code 84 = .ok (.iconst 1, 1) := by decide +kernel
theorem dQ0_85 : decode method_3_code 85 = .ok (.aload_n 0, 1) := by decide +kernel
theorem dQ0_86 : decode method_3_code 86 = .ok (.iconst 1, 1) := by decide +kernel
theorem dQ0_87 : decode method_3_code 87 = .ok (.caload, 1) := by decide +kernel
theorem dQ0_88 : decode method_3_code 88 = .ok (.castore, 1) := by decide +kernel
theorem dQ0_89 : decode method_3_code 89 = .ok (.dup, 1) := by decide +kernel
theorem dQ0_90 : decode method_3_code 90 = .ok (.iconst 2, 1) := by decide +kernel
theorem dQ0_91 : decode method_3_code 91 = .ok (.aload_n 0, 1) := by decide +kernel
theorem dQ0_92 : decode method_3_code 92 = .ok (.iconst 2, 1) := by decide +kernel
theorem dQ0_93 : decode method_3_code 93 = .ok (.caload, 1) := by decide +kernel
theorem dQ0_94 : decode method_3_code 94 = .ok (.castore, 1) := by decide +kernel
theorem dQ0_95 : decode method_3_code 95 = .ok (.invokespecial 36, 3) := by decide +kernel
theorem dQ0_98 : decode method_3_code 98 = .ok (.areturn, 1) := by decide +kernel
theorem dQ0_99 : decode method_3_code 99 = .ok (.new 34, 3) := by decide +kernel
theorem dQ0_102 : decode method_3_code 102 = .ok (.dup, 1) := by decide +kernel
theorem dQ0_103 : decode method_3_code 103 = .ok (.iconst 4, 1) := by decide +kernel
theorem dQ0_104 : decode method_3_code 104 = .ok (.newarray .char, 2) := by decide +kernel
theorem dQ0_106 : decode method_3_code 106 = .ok (.dup, 1) := by decide +kernel
theorem dQ0_107 : decode method_3_code 107 = .ok (.iconst 0, 1) := by decide +kernel
theorem dQ0_108 : decode method_3_code 108 = .ok (.aload_n 0, 1) := by decide +kernel
theorem dQ0_109 : decode method_3_code 109 = .ok (.iconst 0, 1) := by decide +kernel
theorem dQ0_110 : decode method_3_code 110 = .ok (.caload, 1) := by decide +kernel
theorem dQ0_111 : decode method_3_code 111 = .ok (.castore, 1) := by decide +kernel
theorem dQ0_112 : decode method_3_code 112 = .ok (.dup, 1) := by decide +kernel
theorem dQ0_113 : decode method_3_code 113 = .ok (.iconst 1, 1) := by decide +kernel
theorem dQ0_114 : decode method_3_code 114 = .ok (.aload_n 0, 1) := by decide +kernel
theorem dQ0_115 : decode method_3_code 115 = .ok (.iconst 1, 1) := by decide +kernel
theorem dQ0_116 : decode method_3_code 116 = .ok (.caload, 1) := by decide +kernel
theorem dQ0_117 : decode method_3_code 117 = .ok (.castore, 1) := by decide +kernel
theorem dQ0_118 : decode method_3_code 118 = .ok (.dup, 1) := by decide +kernel
theorem dQ0_119 : decode method_3_code 119 = .ok (.iconst 2, 1) := by decide +kernel
theorem dQ0_120 : decode method_3_code 120 = .ok (.aload_n 0, 1) := by decide +kernel
theorem dQ0_121 : decode method_3_code 121 = .ok (.iconst 2, 1) := by decide +kernel
theorem dQ0_122 : decode method_3_code 122 = .ok (.caload, 1) := by decide +kernel
theorem dQ0_123 : decode method_3_code 123 = .ok (.castore, 1) := by decide +kernel
theorem dQ0_124 : decode method_3_code 124 = .ok (.dup, 1) := by decide +kernel
theorem dQ0_125 : decode method_3_code 125 = .ok (.iconst 3, 1) := by decide +kernel
theorem dQ0_126 : decode method_3_code 126 = .ok (.aload_n 0, 1) := by decide +kernel
theorem dQ0_127 : decode method_3_code 127 = .ok (.iconst 3, 1) := by decide +kernel
theorem dQ0_128 : decode method_3_code 128 = .ok (.caload, 1) := by decide +kernel
theorem dQ0_129 : decode method_3_code 129 = .ok (.castore, 1) := by decide +kernel
theorem dQ0_130 : decode method_3_code 130 = .ok (.invokespecial 36, 3) := by decide +kernel
theorem dQ0_133 : decode method_3_code 133 = .ok (.areturn, 1) := by decide +kernel
theorem dQ1_0 : decode method_4_code 0 = .ok (.iload_n 1, 1) := by decide +kernel
theorem dQ1_1 : decode method_4_code 1 = .ok (.ifCond .le 13, 3) := by decide +kernel
theorem dQ1_4 : decode method_4_code 4 = .ok (.aload_n 0, 1) := by decide +kernel
theorem dQ1_5 : decode method_4_code 5 = .ok (.iconst 0, 1) := by decide +kernel
theorem dQ1_6 : decode method_4_code 6 = .ok (.caload, 1) := by decide +kernel
theorem dQ1_7 : decode method_4_code 7 = .ok (.bipush 59, 2) := by decide +kernel
theorem dQ1_9 : decode method_4_code 9 = .ok (.if_icmp .ne 5, 3) := by decide +kernel
theorem dQ1_12 : decode method_4_code 12 = .ok (.iconst 0, 1) := by decide +kernel
theorem dQ1_13 : decode method_4_code 13 = .ok (.ireturn, 1) := by decide +kernel
theorem dQ1_14 : decode method_4_code 14 = .ok (.iload_n 1, 1) := by decide +kernel
theorem dQ1_15 : decode method_4_code 15 = .ok (.iconst 1, 1) := by decide +kernel
theorem dQ1_16 : decode method_4_code 16 = .ok (.if_icmp .le 13, 3) := by decide +kernel
theorem dQ1_19 : decode method_4_code 19 = .ok (.aload_n 0, 1) := by decide +kernel
theorem dQ1_20 : decode method_4_code 20 = .ok (.iconst 1, 1) := by decide +kernel
theorem dQ1_21 : decode method_4_code 21 = .ok (.caload, 1) := by decide +kernel
theorem dQ1_22 : decode method_4_code 22 = .ok (.bipush 59, 2) := by decide +kernel
theorem dQ1_24 : decode method_4_code 24 = .ok (.if_icmp .ne 5, 3) := by decide +kernel
theorem dQ1_27 : decode method_4_code 27 = .ok (.iconst 1, 1) := by decide +kernel
theorem dQ1_28 : decode method_4_code 28 = .ok (.ireturn, 1) := by decide +kernel
theorem dQ1_29 : decode method_4_code 29 = .ok (.iload_n 1, 1) := by decide +kernel
theorem dQ1_30 : decode method_4_code 30 = .ok (.iconst 2, 1) := by decide +kernel
theorem dQ1_31 : decode method_4_code 31 = .ok (.if_icmp .le 13, 3) := by decide +kernel
theorem dQ1_34 : decode method_4_code 34 = .ok (.aload_n 0, 1) := by decide +kernel
theorem dQ1_35 : decode method_4_code 35 = .ok (.iconst 2, 1) := by decide +kernel
theorem dQ1_36 : decode method_4_code 36 = .ok (.caload, 1) := by decide +kernel
theorem dQ1_37 : decode method_4_code 37 = .ok (.bipush 59, 2) := by decide +kernel
theorem dQ1_39 : decode method_4_code 39 = .ok (.if_icmp .ne 5, 3) := by decide +kernel
theorem dQ1_42 : decode method_4_code 42 = .ok (.iconst 2, 1) := by decide +kernel
theorem dQ1_43 : decode method_4_code 43 = .ok (.ireturn, 1) := by decide +kernel
theorem dQ1_44 : decode method_4_code 44 = .ok (.iload_n 1, 1) := by decide +kernel
theorem dQ1_45 : decode method_4_code 45 = .ok (.iconst 3, 1) := by decide +kernel
theorem dQ1_46 : decode method_4_code 46 = .ok (.if_icmp .le 13, 3) := by decide +kernel
theorem dQ1_49 : decode method_4_code 49 = .ok (.aload_n 0, 1) := by decide +kernel
theorem dQ1_50 : decode method_4_code 50 = .ok (.iconst 3, 1) := by decide +kernel
theorem dQ1_51 : decode method_4_code 51 = .ok (.caload, 1) := by decide +kernel
theorem dQ1_52 : decode method_4_code 52 = .ok (.bipush 59, 2) := by decide +kernel
theorem dQ1_54 : decode method_4_code 54 = .ok (.if_icmp .ne 5, 3) := by decide +kernel
theorem dQ1_57 : decode method_4_code 57 = .ok (.iconst 3, 1) := by decide +kernel
theorem dQ1_58 : decode method_4_code 58 = .ok (.ireturn, 1) := by decide +kernel
theorem dQ1_59 : decode method_4_code 59 = .ok (.iload_n 1, 1) := by decide +kernel
theorem dQ1_60 : decode method_4_code 60 = .ok (.ireturn, 1) := by decide +kernel
theorem dQ2_0 : decode method_5_code 0 = .ok (.iload_n 1, 1) := by decide +kernel
theorem dQ2_1 : decode method_5_code 1 = .ok (.ifCond .le 13, 3) := by decide +kernel
theorem dQ2_4 : decode method_5_code 4 = .ok (.aload_n 0, 1) := by decide +kernel
theorem dQ2_5 : decode method_5_code 5 = .ok (.iconst 0, 1) := by decide +kernel
theorem dQ2_6 : decode method_5_code 6 = .ok (.caload, 1) := by decide +kernel
theorem dQ2_7 : decode method_5_code 7 = .ok (.bipush 32, 2) := by decide +kernel
theorem dQ2_9 : decode method_5_code 9 = .ok (.if_icmp .le 5, 3) := by decide +kernel
theorem dQ2_12 : decode method_5_code 12 = .ok (.iconst 0, 1) := by decide +kernel
theorem dQ2_13 : decode method_5_code 13 = .ok (.ireturn, 1) := by decide +kernel
theorem dQ2_14 : decode method_5_code 14 = .ok (.iload_n 1, 1) := by decide +kernel
theorem dQ2_15 : decode method_5_code 15 = .ok (.iconst 1, 1) := by decide +kernel
theorem dQ2_16 : decode method_5_code 16 = .ok (.if_icmp .le 13, 3) := by decide +kernel
theorem dQ2_19 : decode method_5_code 19 = .ok (.aload_n 0, 1) := by decide +kernel
theorem dQ2_20 : decode method_5_code 20 = .ok (.iconst 1, 1) := by decide +kernel
theorem dQ2_21 : decode method_5_code 21 = .ok (.caload, 1) := by decide +kernel
theorem dQ2_22 : decode method_5_code 22 = .ok (.bipush 32, 2) := by decide +kernel
theorem dQ2_24 : decode method_5_code 24 = .ok (.if_icmp .le 5, 3) := by decide +kernel
theorem dQ2_27 : decode method_5_code 27 = .ok (.iconst 1, 1) := by decide +kernel
theorem dQ2_28 : decode method_5_code 28 = .ok (.ireturn, 1) := by decide +kernel
theorem dQ2_29 : decode method_5_code 29 = .ok (.iload_n 1, 1) := by decide +kernel
theorem dQ2_30 : decode method_5_code 30 = .ok (.iconst 2, 1) := by decide +kernel
theorem dQ2_31 : decode method_5_code 31 = .ok (.if_icmp .le 13, 3) := by decide +kernel
theorem dQ2_34 : decode method_5_code 34 = .ok (.aload_n 0, 1) := by decide +kernel
theorem dQ2_35 : decode method_5_code 35 = .ok (.iconst 2, 1) := by decide +kernel
theorem dQ2_36 : decode method_5_code 36 = .ok (.caload, 1) := by decide +kernel
theorem dQ2_37 : decode method_5_code 37 = .ok (.bipush 32, 2) := by decide +kernel
theorem dQ2_39 : decode method_5_code 39 = .ok (.if_icmp .le 5, 3) := by decide +kernel
theorem dQ2_42 : decode method_5_code 42 = .ok (.iconst 2, 1) := by decide +kernel
theorem dQ2_43 : decode method_5_code 43 = .ok (.ireturn, 1) := by decide +kernel
theorem dQ2_44 : decode method_5_code 44 = .ok (.iload_n 1, 1) := by decide +kernel
theorem dQ2_45 : decode method_5_code 45 = .ok (.iconst 3, 1) := by decide +kernel
theorem dQ2_46 : decode method_5_code 46 = .ok (.if_icmp .le 13, 3) := by decide +kernel
theorem dQ2_49 : decode method_5_code 49 = .ok (.aload_n 0, 1) := by decide +kernel
theorem dQ2_50 : decode method_5_code 50 = .ok (.iconst 3, 1) := by decide +kernel
theorem dQ2_51 : decode method_5_code 51 = .ok (.caload, 1) := by decide +kernel
theorem dQ2_52 : decode method_5_code 52 = .ok (.bipush 32, 2) := by decide +kernel
theorem dQ2_54 : decode method_5_code 54 = .ok (.if_icmp .le 5, 3) := by decide +kernel
theorem dQ2_57 : decode method_5_code 57 = .ok (.iconst 3, 1) := by decide +kernel
theorem dQ2_58 : decode method_5_code 58 = .ok (.ireturn, 1) := by decide +kernel
theorem dQ2_59 : decode method_5_code 59 = .ok (.iload_n 1, 1) := by decide +kernel
theorem dQ2_60 : decode method_5_code 60 = .ok (.ireturn, 1) := by decide +kernel
theorem dQ3_0 : decode method_6_code 0 = .ok (.iload_n 1, 1) := by decide +kernel
theorem dQ3_1 : decode method_6_code 1 = .ok (.iconst 3, 1) := by decide +kernel
theorem dQ3_2 : decode method_6_code 2 = .ok (.if_icmp .le 13, 3) := by decide +kernel
theorem dQ3_5 : decode method_6_code 5 = .ok (.aload_n 0, 1) := by decide +kernel
theorem dQ3_6 : decode method_6_code 6 = .ok (.iconst 3, 1) := by decide +kernel
theorem dQ3_7 : decode method_6_code 7 = .ok (.caload, 1) := by decide +kernel
theorem dQ3_8 : decode method_6_code 8 = .ok (.bipush 32, 2) := by decide +kernel
theorem dQ3_10 : decode method_6_code 10 = .ok (.if_icmp .le 5, 3) := by decide +kernel
theorem dQ3_13 : decode method_6_code 13 = .ok (.iconst 4, 1) := by decide +kernel
theorem dQ3_14 : decode method_6_code 14 = .ok (.ireturn, 1) := by decide +kernel
theorem dQ3_15 : decode method_6_code 15 = .ok (.iload_n 1, 1) := by decide +kernel
theorem dQ3_16 : decode method_6_code 16 = .ok (.iconst 2, 1) := by decide +kernel
theorem dQ3_17 : decode method_6_code 17 = .ok (.if_icmp .le 13, 3) := by decide +kernel
theorem dQ3_20 : decode method_6_code 20 = .ok (.aload_n 0, 1) := by decide +kernel
theorem dQ3_21 : decode method_6_code 21 = .ok (.iconst 2, 1) := by decide +kernel
theorem dQ3_22 : decode method_6_code 22 = .ok (.caload, 1) := by decide +kernel
theorem dQ3_23 : decode method_6_code 23 = .ok (.bipush 32, 2) := by decide +kernel
theorem dQ3_25 : decode method_6_code 25 = .ok (.if_icmp .le 5, 3) := by decide +kernel
theorem dQ3_28 : decode method_6_code 28 = .ok (.iconst 3, 1) := by decide +kernel
theorem dQ3_29 : decode method_6_code 29 = .ok (.ireturn, 1) := by decide +kernel
theorem dQ3_30 : decode method_6_code 30 = .ok (.iload_n 1, 1) := by decide +kernel
theorem dQ3_31 : decode method_6_code 31 = .ok (.iconst 1, 1) := by decide +kernel
theorem dQ3_32 : decode method_6_code 32 = .ok (.if_icmp .le 13, 3) := by decide +kernel
theorem dQ3_35 : decode method_6_code 35 = .ok (.aload_n 0, 1) := by decide +kernel
theorem dQ3_36 : decode method_6_code 36 = .ok (.iconst 1, 1) := by decide +kernel
theorem dQ3_37 : decode method_6_code 37 = .ok (.caload, 1) := by decide +kernel
theorem dQ3_38 : decode method_6_code 38 = .ok (.bipush 32, 2) := by decide +kernel
theorem dQ3_40 : decode method_6_code 40 = .ok (.if_icmp .le 5, 3) := by decide +kernel
theorem dQ3_43 : decode method_6_code 43 = .ok (.iconst 2, 1) := by decide +kernel
theorem dQ3_44 : decode method_6_code 44 = .ok (.ireturn, 1) := by decide +kernel
theorem dQ3_45 : decode method_6_code 45 = .ok (.iload_n 1, 1) := by decide +kernel
theorem dQ3_46 : decode method_6_code 46 = .ok (.ifCond .le 13, 3) := by decide +kernel
theorem dQ3_49 : decode method_6_code 49 = .ok (.aload_n 0, 1) := by decide +kernel
theorem dQ3_50 : decode method_6_code 50 = .ok (.iconst 0, 1) := by decide +kernel
theorem dQ3_51 : decode method_6_code 51 = .ok (.caload, 1) := by decide +kernel
theorem dQ3_52 : decode method_6_code 52 = .ok (.bipush 32, 2) := by decide +kernel
theorem dQ3_54 : decode method_6_code 54 = .ok (.if_icmp .le 5, 3) := by decide +kernel
theorem dQ3_57 : decode method_6_code 57 = .ok (.iconst 1, 1) := by decide +kernel
theorem dQ3_58 : decode method_6_code 58 = .ok (.ireturn, 1) := by decide +kernel
theorem dQ3_59 : decode method_6_code 59 = .ok (.iload_n 2, 1) := by decide +kernel
theorem dQ3_60 : decode method_6_code 60 = .ok (.ireturn, 1) := by decide +kernel
theorem dQ4_0 : decode method_8_code 0 = .ok (.iload_n 3, 1) := by decide +kernel
theorem dQ4_1 : decode method_8_code 1 = .ok (.iload 4, 2) := by decide +kernel
theorem dQ4_3 : decode method_8_code 3 = .ok (.if_icmp .ge 20, 3) := by decide +kernel
theorem dQ4_6 : decode method_8_code 6 = .ok (.aload_n 0, 1) := by decide +kernel
theorem dQ4_7 : decode method_8_code 7 = .ok (.iload_n 1, 1) := by decide +kernel
theorem dQ4_8 : decode method_8_code 8 = .ok (.iload_n 3, 1) := by decide +kernel
theorem dQ4_9 : decode method_8_code 9 = .ok (.iadd, 1) := by decide +kernel
theorem dQ4_10 : decode method_8_code 10 = .ok (.caload, 1) := by decide +kernel
theorem dQ4_11 : decode method_8_code 11 = .ok (.invokestatic 39, 3) := by decide +kernel
theorem dQ4_14 : decode method_8_code 14 = .ok (.aload_n 2, 1) := by decide +kernel
theorem dQ4_15 : decode method_8_code 15 = .ok (.iload_n 3, 1) := by decide +kernel
theorem dQ4_16 : decode method_8_code 16 = .ok (.caload, 1) := by decide +kernel
theorem dQ4_17 : decode method_8_code 17 = .ok (.invokestatic 39, 3) := by decide +kernel
theorem dQ4_20 : decode method_8_code 20 = .ok (.if_icmp .ne 7, 3) := by decide +kernel
theorem dQ4_23 : decode method_8_code 23 = .ok (.iconst 1, 1) := by decide +kernel
theorem dQ4_24 : decode method_8_code 24 = .ok (.goto 4, 3) := by decide +kernel
theorem dQ4_27 : decode method_8_code 27 = .ok (.iconst 0, 1) := by decide +kernel
theorem dQ4_28 : decode method_8_code 28 = .ok (.ireturn, 1) := by decide +kernel
theorem dQ5_0 : decode method_7_code 0 = .ok (.iload_n 0, 1) := by decide +kernel
theorem dQ5_1 : decode method_7_code 1 = .ok (.bipush 65, 2) := by decide +kernel
theorem dQ5_3 : decode method_7_code 3 = .ok (.if_icmp .lt 14, 3) := by decide +kernel
theorem dQ5_6 : decode method_7_code 6 = .ok (.iload_n 0, 1) := by decide +kernel
theorem dQ5_7 : decode method_7_code 7 = .ok (.bipush 90, 2) := by decide +kernel
theorem dQ5_9 : decode method_7_code 9 = .ok (.if_icmp .gt 8, 3) := by decide +kernel
theorem dQ5_12 : decode method_7_code 12 = .ok (.iload_n 0, 1) := by decide +kernel
theorem dQ5_13 : decode method_7_code 13 = .ok (.bipush 32, 2) := by decide +kernel
theorem dQ5_15 : decode method_7_code 15 = .ok (.iadd, 1) := by decide +kernel
theorem dQ5_16 : decode method_7_code 16 = .ok (.ireturn, 1) := by decide +kernel
theorem dQ5_17 : decode method_7_code 17 = .ok (.iload_n 0, 1) := by decide +kernel
theorem dQ5_18 : decode method_7_code 18 = .ok (.sipush 192, 3) := by decide +kernel
theorem dQ5_21 : decode method_7_code 21 = .ok (.if_icmp .lt 22, 3) := by decide +kernel
theorem dQ5_24 : decode method_7_code 24 = .ok (.iload_n 0, 1) := by decide +kernel
theorem dQ5_25 : decode method_7_code 25 = .ok (.sipush 222, 3) := by decide +kernel
theorem dQ5_28 : decode method_7_code 28 = .ok (.if_icmp .gt 15, 3) := by decide +kernel
theorem dQ5_31 : decode method_7_code 31 = .ok (.iload_n 0, 1) := by decide +kernel
theorem dQ5_32 : decode method_7_code 32 = .ok (.sipush 215, 3) := by decide +kernel
theorem dQ5_35 : decode method_7_code 35 = .ok (.if_icmp .eq 8, 3) := by decide +kernel
theorem dQ5_38 : decode method_7_code 38 = .ok (.iload_n 0, 1) := by decide +kernel
theorem dQ5_39 : decode method_7_code 39 = .ok (.bipush 32, 2) := by decide +kernel
theorem dQ5_41 : decode method_7_code 41 = .ok (.iadd, 1) := by decide +kernel
theorem dQ5_42 : decode method_7_code 42 = .ok (.ireturn, 1) := by decide +kernel
theorem dQ5_43 : decode method_7_code 43 = .ok (.iload_n 0, 1) := by decide +kernel
theorem dQ5_44 : decode method_7_code 44 = .ok (.ireturn, 1) := by decide +kernel
theorem dQ6_0 : decode prog_8_method_3_code 0 = .ok (.aload_n 0, 1) := by decide +kernel
theorem dQ6_1 : decode prog_8_method_3_code 1 = .ok (.ifnonnull 5, 3) := by decide +kernel
theorem dQ6_4 : decode prog_8_method_3_code 4 = .ok (.iconst 0, 1) := by decide +kernel
theorem dQ6_5 : decode prog_8_method_3_code 5 = .ok (.ireturn, 1) := by decide +kernel
theorem dQ6_6 : decode prog_8_method_3_code 6 = .ok (.aload_n 0, 1) := by decide +kernel
theorem dQ6_7 : decode prog_8_method_3_code 7 = .ok (.bipush 59, 2) := by decide +kernel
theorem dQ6_9 : decode prog_8_method_3_code 9 = .ok (.invokevirtual 21, 3) := by decide +kernel
theorem dQ6_12 : decode prog_8_method_3_code 12 = .ok (.istore_n 2, 1) := by decide +kernel
theorem dQ6_13 : decode prog_8_method_3_code 13 = .ok (.iload_n 2, 1) := by decide +kernel
theorem dQ6_14 : decode prog_8_method_3_code 14 = .ok (.ifCond .ge 7, 3) := by decide +kernel
theorem dQ6_17 : decode prog_8_method_3_code 17 = .ok (.aload_n 0, 1) := by decide +kernel
theorem dQ6_18 : decode prog_8_method_3_code 18 = .ok (.goto 9, 3) := by decide +kernel
theorem dQ6_21 : decode prog_8_method_3_code 21 = .ok (.aload_n 0, 1) := by decide +kernel
theorem dQ6_22 : decode prog_8_method_3_code 22 = .ok (.iconst 0, 1) := by decide +kernel
theorem dQ6_23 : decode prog_8_method_3_code 23 = .ok (.iload_n 2, 1) := by decide +kernel
theorem dQ6_24 : decode prog_8_method_3_code 24 = .ok (.invokevirtual 27, 3) := by decide +kernel
theorem dQ6_27 : decode prog_8_method_3_code 27 = .ok (.astore_n 3, 1) := by decide +kernel
theorem dQ6_28 : decode prog_8_method_3_code 28 = .ok (.aload_n 3, 1) := by decide +kernel
theorem dQ6_29 : decode prog_8_method_3_code 29 = .ok (.invokevirtual 31, 3) := by decide +kernel
theorem dQ6_32 : decode prog_8_method_3_code 32 = .ok (.aload_n 1, 1) := by decide +kernel
theorem dQ6_33 : decode prog_8_method_3_code 33 = .ok (.invokevirtual 35, 3) := by decide +kernel
theorem dQ6_36 : decode prog_8_method_3_code 36 = .ok (.ireturn, 1) := by decide +kernel
theorem dQ7_0 : decode jdk_42_method_79_code 0 = .ok (.aload_n 0, 1) := by decide +kernel
theorem dQ7_1 : decode jdk_42_method_79_code 1 = .ok (.iload_n 1, 1) := by decide +kernel
theorem dQ7_2 : decode jdk_42_method_79_code 2 = .ok (.iconst 0, 1) := by decide +kernel
theorem dQ7_3 : decode jdk_42_method_79_code 3 = .ok (.invokevirtual 633, 3) := by decide +kernel
theorem dQ7_6 : decode jdk_42_method_79_code 6 = .ok (.ireturn, 1) := by decide +kernel
theorem dQ8_0 : decode jdk_42_method_80_code 0 = .ok (.aload_n 0, 1) := by decide +kernel
theorem dQ8_1 : decode jdk_42_method_80_code 1 = .ok (.invokevirtual 492, 3) := by decide +kernel
theorem dQ8_4 : decode jdk_42_method_80_code 4 = .ok (.ifCond .eq 19, 3) := by decide +kernel
theorem dQ8_7 : decode jdk_42_method_80_code 7 = .ok (.aload_n 0, 1) := by decide +kernel
theorem dQ8_8 : decode jdk_42_method_80_code 8 = .ok (.getfield 9, 3) := by decide +kernel
theorem dQ8_11 : decode jdk_42_method_80_code 11 = .ok (.iload_n 1, 1) := by decide +kernel
theorem dQ8_12 : decode jdk_42_method_80_code 12 = .ok (.iload_n 2, 1) := by decide +kernel
theorem dQ8_13 : decode jdk_42_method_80_code 13 = .ok (.aload_n 0, 1) := by decide +kernel
theorem dQ8_14 : decode jdk_42_method_80_code 14 = .ok (.invokevirtual 505, 3) := by decide +kernel
theorem dQ8_17 : decode jdk_42_method_80_code 17 = .ok (.invokestatic 637, 3) := by decide +kernel
theorem dQ8_20 : decode jdk_42_method_80_code 20 = .ok (.goto 16, 3) := by decide +kernel
theorem dQ8_23 : decode jdk_42_method_80_code 23 = .ok (.aload_n 0, 1) := by decide +kernel
theorem dQ8_24 : decode jdk_42_method_80_code 24 = .ok (.getfield 9, 3) := by decide +kernel
theorem dQ8_27 : decode jdk_42_method_80_code 27 = .ok (.iload_n 1, 1) := by decide +kernel
theorem dQ8_28 : decode jdk_42_method_80_code 28 = .ok (.iload_n 2, 1) := by decide +kernel
theorem dQ8_29 : decode jdk_42_method_80_code 29 = .ok (.aload_n 0, 1) := by decide +kernel
theorem dQ8_30 : decode jdk_42_method_80_code 30 = .ok (.invokevirtual 505, 3) := by decide +kernel
theorem dQ8_33 : decode jdk_42_method_80_code 33 = .ok (.invokestatic 640, 3) := by decide +kernel
theorem dQ8_36 : decode jdk_42_method_80_code 36 = .ok (.ireturn, 1) := by decide +kernel
theorem dQ9_0 : decode jdk_42_method_152_code 0 = .ok (.getstatic 38, 3) := by decide +kernel
theorem dQ9_3 : decode jdk_42_method_152_code 3 = .ok (.ifCond .eq 10, 3) := by decide +kernel
theorem dQ9_6 : decode jdk_42_method_152_code 6 = .ok (.aload_n 0, 1) := by decide +kernel
theorem dQ9_7 : decode jdk_42_method_152_code 7 = .ok (.getfield 15, 3) := by decide +kernel
theorem dQ9_10 : decode jdk_42_method_152_code 10 = .ok (.goto 4, 3) := by decide +kernel
theorem dQ9_13 : decode jdk_42_method_152_code 13 = .ok (.iconst 1, 1) := by decide +kernel
theorem dQ9_14 : decode jdk_42_method_152_code 14 = .ok (.ireturn, 1) := by decide +kernel
theorem dQ10_0 : decode jdk_43_method_22_code 0 = .ok (.iload_n 1, 1) := by decide +kernel
theorem dQ10_1 : decode jdk_43_method_22_code 1 = .ok (.invokestatic 88, 3) := by decide +kernel
theorem dQ10_4 : decode jdk_43_method_22_code 4 = .ok (.ifCond .ne 5, 3) := by decide +kernel
theorem dQ10_7 : decode jdk_43_method_22_code 7 = .ok (.iconst (-1), 1) := by decide +kernel
theorem dQ10_8 : decode jdk_43_method_22_code 8 = .ok (.ireturn, 1) := by decide +kernel
theorem dQ10_9 : decode jdk_43_method_22_code 9 = .ok (.iload_n 2, 1) := by decide +kernel
theorem dQ10_10 : decode jdk_43_method_22_code 10 = .ok (.iconst 0, 1) := by decide +kernel
theorem dQ10_11 : decode jdk_43_method_22_code 11 = .ok (.invokestatic 92, 3) := by decide +kernel
theorem dQ10_14 : decode jdk_43_method_22_code 14 = .ok (.istore_n 2, 1) := by decide +kernel
theorem dQ10_15 : decode jdk_43_method_22_code 15 = .ok (.iload_n 3, 1) := by decide +kernel
theorem dQ10_16 : decode jdk_43_method_22_code 16 = .ok (.aload_n 0, 1) := by decide +kernel
theorem dQ10_17 : decode jdk_43_method_22_code 17 = .ok (.arraylength, 1) := by decide +kernel
theorem dQ10_18 : decode jdk_43_method_22_code 18 = .ok (.invokestatic 38, 3) := by decide +kernel
theorem dQ10_21 : decode jdk_43_method_22_code 21 = .ok (.istore_n 3, 1) := by decide +kernel
theorem dQ10_22 : decode jdk_43_method_22_code 22 = .ok (.iload_n 2, 1) := by decide +kernel
theorem dQ10_23 : decode jdk_43_method_22_code 23 = .ok (.iload_n 3, 1) := by decide +kernel
theorem dQ10_24 : decode jdk_43_method_22_code 24 = .ok (.if_icmp .lt 5, 3) := by decide +kernel
theorem dQ10_27 : decode jdk_43_method_22_code 27 = .ok (.iconst (-1), 1) := by decide +kernel
theorem dQ10_28 : decode jdk_43_method_22_code 28 = .ok (.ireturn, 1) := by decide +kernel
theorem dQ10_29 : decode jdk_43_method_22_code 29 = .ok (.aload_n 0, 1) := by decide +kernel
theorem dQ10_30 : decode jdk_43_method_22_code 30 = .ok (.iload_n 1, 1) := by decide +kernel
theorem dQ10_31 : decode jdk_43_method_22_code 31 = .ok (.iload_n 2, 1) := by decide +kernel
theorem dQ10_32 : decode jdk_43_method_22_code 32 = .ok (.iload_n 3, 1) := by decide +kernel
theorem dQ10_33 : decode jdk_43_method_22_code 33 = .ok (.invokestatic 95, 3) := by decide +kernel
theorem dQ10_36 : decode jdk_43_method_22_code 36 = .ok (.ireturn, 1) := by decide +kernel
theorem dQ11_0 : decode jdk_43_method_4_code 0 = .ok (.iload_n 0, 1) := by decide +kernel
theorem dQ11_1 : decode jdk_43_method_4_code 1 = .ok (.ifCond .lt 14, 3) := by decide +kernel
theorem dQ11_4 : decode jdk_43_method_4_code 4 = .ok (.iload_n 0, 1) := by decide +kernel
theorem dQ11_5 : decode jdk_43_method_4_code 5 = .ok (.sipush 255, 3) := by decide +kernel
theorem dQ11_8 : decode jdk_43_method_4_code 8 = .ok (.if_icmp .gt 7, 3) := by decide +kernel
theorem dQ11_11 : decode jdk_43_method_4_code 11 = .ok (.iconst 1, 1) := by decide +kernel
theorem dQ11_12 : decode jdk_43_method_4_code 12 = .ok (.goto 4, 3) := by decide +kernel
theorem dQ11_15 : decode jdk_43_method_4_code 15 = .ok (.iconst 0, 1) := by decide +kernel
theorem dQ11_16 : decode jdk_43_method_4_code 16 = .ok (.ireturn, 1) := by decide +kernel
theorem dQ12_0 : decode jdk_29_method_65_code 0 = .ok (.iload_n 0, 1) := by decide +kernel
theorem dQ12_1 : decode jdk_29_method_65_code 1 = .ok (.iload_n 1, 1) := by decide +kernel
theorem dQ12_2 : decode jdk_29_method_65_code 2 = .ok (.if_icmp .lt 7, 3) := by decide +kernel
theorem dQ12_5 : decode jdk_29_method_65_code 5 = .ok (.iload_n 0, 1) := by decide +kernel
theorem dQ12_6 : decode jdk_29_method_65_code 6 = .ok (.goto 4, 3) := by decide +kernel
theorem dQ12_9 : decode jdk_29_method_65_code 9 = .ok (.iload_n 1, 1) := by decide +kernel
theorem dQ12_10 : decode jdk_29_method_65_code 10 = .ok (.ireturn, 1) := by decide +kernel
theorem dQ13_0 : decode jdk_29_method_69_code 0 = .ok (.iload_n 0, 1) := by decide +kernel
theorem dQ13_1 : decode jdk_29_method_69_code 1 = .ok (.iload_n 1, 1) := by decide +kernel
theorem dQ13_2 : decode jdk_29_method_69_code 2 = .ok (.if_icmp .gt 7, 3) := by decide +kernel
theorem dQ13_5 : decode jdk_29_method_69_code 5 = .ok (.iload_n 0, 1) := by decide +kernel
theorem dQ13_6 : decode jdk_29_method_69_code 6 = .ok (.goto 4, 3) := by decide +kernel
theorem dQ13_9 : decode jdk_29_method_69_code 9 = .ok (.iload_n 1, 1) := by decide +kernel
theorem dQ13_10 : decode jdk_29_method_69_code 10 = .ok (.ireturn, 1) := by decide +kernel
theorem dQ14_0 : decode jdk_43_method_23_code 0 = .ok (.iload_n 1, 1) := by decide +kernel
theorem dQ14_1 : decode jdk_43_method_23_code 1 = .ok (.i2b, 1) := by decide +kernel
theorem dQ14_2 : decode jdk_43_method_23_code 2 = .ok (.istore 4, 2) := by decide +kernel
theorem dQ14_4 : decode jdk_43_method_23_code 4 = .ok (.iload_n 2, 1) := by decide +kernel
theorem dQ14_5 : decode jdk_43_method_23_code 5 = .ok (.istore 5, 2) := by decide +kernel
theorem dQ14_7 : decode jdk_43_method_23_code 7 = .ok (.iload 5, 2) := by decide +kernel
theorem dQ14_9 : decode jdk_43_method_23_code 9 = .ok (.iload_n 3, 1) := by decide +kernel
theorem dQ14_10 : decode jdk_43_method_23_code 10 = .ok (.if_icmp .ge 21, 3) := by decide +kernel
theorem dQ14_13 : decode jdk_43_method_23_code 13 = .ok (.aload_n 0, 1) := by decide +kernel
theorem dQ14_14 : decode jdk_43_method_23_code 14 = .ok (.iload 5, 2) := by decide +kernel
theorem dQ14_16 : decode jdk_43_method_23_code 16 = .ok (.baload, 1) := by decide +kernel
theorem dQ14_17 : decode jdk_43_method_23_code 17 = .ok (.iload 4, 2) := by decide +kernel
theorem dQ14_19 : decode jdk_43_method_23_code 19 = .ok (.if_icmp .ne 6, 3) := by decide +kernel
theorem dQ14_22 : decode jdk_43_method_23_code 22 = .ok (.iload 5, 2) := by decide +kernel
theorem dQ14_24 : decode jdk_43_method_23_code 24 = .ok (.ireturn, 1) := by decide +kernel
theorem dQ14_25 : decode jdk_43_method_23_code 25 = .ok (.iinc 5 1, 3) := by decide +kernel
theorem dQ14_28 : decode jdk_43_method_23_code 28 = .ok (.goto (-21), 3) := by decide +kernel
theorem dQ14_31 : decode jdk_43_method_23_code 31 = .ok (.iconst (-1), 1) := by decide +kernel
theorem dQ14_32 : decode jdk_43_method_23_code 32 = .ok (.ireturn, 1) := by decide +kernel
theorem dQ15_0 : decode jdk_42_method_113_code 0 = .ok (.aload_n 0, 1) := by decide +kernel
theorem dQ15_1 : decode jdk_42_method_113_code 1 = .ok (.invokevirtual 492, 3) := by decide +kernel
theorem dQ15_4 : decode jdk_42_method_113_code 4 = .ok (.ifCond .eq 13, 3) := by decide +kernel
theorem dQ15_7 : decode jdk_42_method_113_code 7 = .ok (.aload_n 0, 1) := by decide +kernel
theorem dQ15_8 : decode jdk_42_method_113_code 8 = .ok (.getfield 9, 3) := by decide +kernel
theorem dQ15_11 : decode jdk_42_method_113_code 11 = .ok (.invokestatic 859, 3) := by decide +kernel
theorem dQ15_14 : decode jdk_42_method_113_code 14 = .ok (.goto 10, 3) := by decide +kernel
theorem dQ15_17 : decode jdk_42_method_113_code 17 = .ok (.aload_n 0, 1) := by decide +kernel
theorem dQ15_18 : decode jdk_42_method_113_code 18 = .ok (.getfield 9, 3) := by decide +kernel
theorem dQ15_21 : decode jdk_42_method_113_code 21 = .ok (.invokestatic 863, 3) := by decide +kernel
theorem dQ15_24 : decode jdk_42_method_113_code 24 = .ok (.astore_n 1, 1) := by decide +kernel
theorem dQ15_25 : decode jdk_42_method_113_code 25 = .ok (.aload_n 1, 1) := by decide +kernel
theorem dQ15_26 : decode jdk_42_method_113_code 26 = .ok (.ifnonnull 7, 3) := by decide +kernel
theorem dQ15_29 : decode jdk_42_method_113_code 29 = .ok (.aload_n 0, 1) := by decide +kernel
theorem dQ15_30 : decode jdk_42_method_113_code 30 = .ok (.goto 4, 3) := by decide +kernel
theorem dQ15_33 : decode jdk_42_method_113_code 33 = .ok (.aload_n 1, 1) := by decide +kernel
theorem dQ15_34 : decode jdk_42_method_113_code 34 = .ok (.areturn, 1) := by decide +kernel
theorem dQ16_0 : decode jdk_43_method_36_code 0 = .ok (.aload_n 0, 1) := by decide +kernel
theorem dQ16_1 : decode jdk_43_method_36_code 1 = .ok (.arraylength, 1) := by decide +kernel
theorem dQ16_2 : decode jdk_43_method_36_code 2 = .ok (.istore_n 1, 1) := by decide +kernel
theorem dQ16_3 : decode jdk_43_method_36_code 3 = .ok (.iconst 0, 1) := by decide +kernel
theorem dQ16_4 : decode jdk_43_method_36_code 4 = .ok (.istore_n 2, 1) := by decide +kernel
theorem dQ16_5 : decode jdk_43_method_36_code 5 = .ok (.iload_n 2, 1) := by decide +kernel
theorem dQ16_6 : decode jdk_43_method_36_code 6 = .ok (.iload_n 1, 1) := by decide +kernel
theorem dQ16_7 : decode jdk_43_method_36_code 7 = .ok (.if_icmp .ge 21, 3) := by decide +kernel
theorem dQ16_10 : decode jdk_43_method_36_code 10 = .ok (.aload_n 0, 1) := by decide +kernel
theorem dQ16_11 : decode jdk_43_method_36_code 11 = .ok (.iload_n 2, 1) := by decide +kernel
theorem dQ16_12 : decode jdk_43_method_36_code 12 = .ok (.baload, 1) := by decide +kernel
theorem dQ16_13 : decode jdk_43_method_36_code 13 = .ok (.sipush 255, 3) := by decide +kernel
theorem dQ16_16 : decode jdk_43_method_36_code 16 = .ok (.iand, 1) := by decide +kernel
theorem dQ16_17 : decode jdk_43_method_36_code 17 = .ok (.bipush 32, 2) := by decide +kernel
theorem dQ16_19 : decode jdk_43_method_36_code 19 = .ok (.if_icmp .gt 9, 3) := by decide +kernel
theorem dQ16_22 : decode jdk_43_method_36_code 22 = .ok (.iinc 2 1, 3) := by decide +kernel
theorem dQ16_25 : decode jdk_43_method_36_code 25 = .ok (.goto (-20), 3) := by decide +kernel
theorem dQ16_28 : decode jdk_43_method_36_code 28 = .ok (.iload_n 2, 1) := by decide +kernel
theorem dQ16_29 : decode jdk_43_method_36_code 29 = .ok (.iload_n 1, 1) := by decide +kernel
theorem dQ16_30 : decode jdk_43_method_36_code 30 = .ok (.if_icmp .ge 23, 3) := by decide +kernel
theorem dQ16_33 : decode jdk_43_method_36_code 33 = .ok (.aload_n 0, 1) := by decide +kernel
theorem dQ16_34 : decode jdk_43_method_36_code 34 = .ok (.iload_n 1, 1) := by decide +kernel
theorem dQ16_35 : decode jdk_43_method_36_code 35 = .ok (.iconst 1, 1) := by decide +kernel
theorem dQ16_36 : decode jdk_43_method_36_code 36 = .ok (.isub, 1) := by decide +kernel
theorem dQ16_37 : decode jdk_43_method_36_code 37 = .ok (.baload, 1) := by decide +kernel
theorem dQ16_38 : decode jdk_43_method_36_code 38 = .ok (.sipush 255, 3) := by decide +kernel
theorem dQ16_41 : decode jdk_43_method_36_code 41 = .ok (.iand, 1) := by decide +kernel
theorem dQ16_42 : decode jdk_43_method_36_code 42 = .ok (.bipush 32, 2) := by decide +kernel
theorem dQ16_44 : decode jdk_43_method_36_code 44 = .ok (.if_icmp .gt 9, 3) := by decide +kernel
theorem dQ16_47 : decode jdk_43_method_36_code 47 = .ok (.iinc 1 (-1), 3) := by decide +kernel
theorem dQ16_50 : decode jdk_43_method_36_code 50 = .ok (.goto (-22), 3) := by decide +kernel
theorem dQ16_53 : decode jdk_43_method_36_code 53 = .ok (.iload_n 2, 1) := by decide +kernel
theorem dQ16_54 : decode jdk_43_method_36_code 54 = .ok (.ifCond .gt 9, 3) := by decide +kernel
theorem dQ16_57 : decode jdk_43_method_36_code 57 = .ok (.iload_n 1, 1) := by decide +kernel
theorem dQ16_58 : decode jdk_43_method_36_code 58 = .ok (.aload_n 0, 1) := by decide +kernel
theorem dQ16_59 : decode jdk_43_method_36_code 59 = .ok (.arraylength, 1) := by decide +kernel
theorem dQ16_60 : decode jdk_43_method_36_code 60 = .ok (.if_icmp .ge 14, 3) := by decide +kernel
theorem dQ16_63 : decode jdk_43_method_36_code 63 = .ok (.aload_n 0, 1) := by decide +kernel
theorem dQ16_64 : decode jdk_43_method_36_code 64 = .ok (.iload_n 2, 1) := by decide +kernel
theorem dQ16_65 : decode jdk_43_method_36_code 65 = .ok (.iload_n 1, 1) := by decide +kernel
theorem dQ16_66 : decode jdk_43_method_36_code 66 = .ok (.iload_n 2, 1) := by decide +kernel
theorem dQ16_67 : decode jdk_43_method_36_code 67 = .ok (.isub, 1) := by decide +kernel
theorem dQ16_68 : decode jdk_43_method_36_code 68 = .ok (.invokestatic 210, 3) := by decide +kernel
theorem dQ16_71 : decode jdk_43_method_36_code 71 = .ok (.goto 4, 3) := by decide +kernel
theorem dQ16_74 : decode jdk_43_method_36_code 74 = .ok (.aconst_null, 1) := by decide +kernel
theorem dQ16_75 : decode jdk_43_method_36_code 75 = .ok (.areturn, 1) := by decide +kernel
theorem dQ17_0 : decode jdk_43_method_47_code 0 = .ok (.iload_n 2, 1) := by decide +kernel
theorem dQ17_1 : decode jdk_43_method_47_code 1 = .ok (.ifCond .ne 6, 3) := by decide +kernel
theorem dQ17_4 : decode jdk_43_method_47_code 4 = .ok (.ldc 151, 2) := by decide +kernel
theorem dQ17_6 : decode jdk_43_method_47_code 6 = .ok (.areturn, 1) := by decide +kernel
theorem dQ17_7 : decode jdk_43_method_47_code 7 = .ok (.new 1, 3) := by decide +kernel
theorem dQ17_10 : decode jdk_43_method_47_code 10 = .ok (.dup, 1) := by decide +kernel
theorem dQ17_11 : decode jdk_43_method_47_code 11 = .ok (.aload_n 0, 1) := by decide +kernel
theorem dQ17_12 : decode jdk_43_method_47_code 12 = .ok (.iload_n 1, 1) := by decide +kernel
theorem dQ17_13 : decode jdk_43_method_47_code 13 = .ok (.iload_n 1, 1) := by decide +kernel
theorem dQ17_14 : decode jdk_43_method_47_code 14 = .ok (.iload_n 2, 1) := by decide +kernel
theorem dQ17_15 : decode jdk_43_method_47_code 15 = .ok (.iadd, 1) := by decide +kernel
theorem dQ17_16 : decode jdk_43_method_47_code 16 = .ok (.invokestatic 232, 3) := by decide +kernel
theorem dQ17_19 : decode jdk_43_method_47_code 19 = .ok (.iconst 0, 1) := by decide +kernel
theorem dQ17_20 : decode jdk_43_method_47_code 20 = .ok (.invokespecial 112, 3) := by decide +kernel
theorem dQ17_23 : decode jdk_43_method_47_code 23 = .ok (.areturn, 1) := by decide +kernel
theorem dQ18_0 : decode jdk_42_method_70_code 0 = .ok (.aload_n 0, 1) := by decide +kernel
theorem dQ18_1 : decode jdk_42_method_70_code 1 = .ok (.aload_n 1, 1) := by decide +kernel
theorem dQ18_2 : decode jdk_42_method_70_code 2 = .ok (.if_acmp .ne 7, 3) := by decide +kernel
theorem dQ18_5 : decode jdk_42_method_70_code 5 = .ok (.iconst 1, 1) := by decide +kernel
theorem dQ18_6 : decode jdk_42_method_70_code 6 = .ok (.goto 38, 3) := by decide +kernel
theorem dQ18_9 : decode jdk_42_method_70_code 9 = .ok (.aload_n 1, 1) := by decide +kernel
theorem dQ18_10 : decode jdk_42_method_70_code 10 = .ok (.ifnull 33, 3) := by decide +kernel
theorem dQ18_13 : decode jdk_42_method_70_code 13 = .ok (.aload_n 1, 1) := by decide +kernel
theorem dQ18_14 : decode jdk_42_method_70_code 14 = .ok (.invokevirtual 505, 3) := by decide +kernel
theorem dQ18_17 : decode jdk_42_method_70_code 17 = .ok (.aload_n 0, 1) := by decide +kernel
theorem dQ18_18 : decode jdk_42_method_70_code 18 = .ok (.invokevirtual 505, 3) := by decide +kernel
theorem dQ18_21 : decode jdk_42_method_70_code 21 = .ok (.if_icmp .ne 22, 3) := by decide +kernel
theorem dQ18_24 : decode jdk_42_method_70_code 24 = .ok (.aload_n 0, 1) := by decide +kernel
theorem dQ18_25 : decode jdk_42_method_70_code 25 = .ok (.iconst 1, 1) := by decide +kernel
theorem dQ18_26 : decode jdk_42_method_70_code 26 = .ok (.iconst 0, 1) := by decide +kernel
theorem dQ18_27 : decode jdk_42_method_70_code 27 = .ok (.aload_n 1, 1) := by decide +kernel
theorem dQ18_28 : decode jdk_42_method_70_code 28 = .ok (.iconst 0, 1) := by decide +kernel
theorem dQ18_29 : decode jdk_42_method_70_code 29 = .ok (.aload_n 0, 1) := by decide +kernel
theorem dQ18_30 : decode jdk_42_method_70_code 30 = .ok (.invokevirtual 505, 3) := by decide +kernel
theorem dQ18_33 : decode jdk_42_method_70_code 33 = .ok (.invokevirtual 582, 3) := by decide +kernel
theorem dQ18_36 : decode jdk_42_method_70_code 36 = .ok (.ifCond .eq 7, 3) := by decide +kernel
theorem dQ18_39 : decode jdk_42_method_70_code 39 = .ok (.iconst 1, 1) := by decide +kernel
theorem dQ18_40 : decode jdk_42_method_70_code 40 = .ok (.goto 4, 3) := by decide +kernel
theorem dQ18_43 : decode jdk_42_method_70_code 43 = .ok (.iconst 0, 1) := by decide +kernel
theorem dQ18_44 : decode jdk_42_method_70_code 44 = .ok (.ireturn, 1) := by decide +kernel
theorem dQ19_0 : decode jdk_42_method_74_code 0 = .ok (.iload_n 1, 1) := by decide +kernel
theorem dQ19_1 : decode jdk_42_method_74_code 1 = .ok (.ifCond .ne 14, 3) := by decide +kernel
theorem dQ19_4 : decode jdk_42_method_74_code 4 = .ok (.aload_n 0, 1) := by decide +kernel
theorem dQ19_5 : decode jdk_42_method_74_code 5 = .ok (.iload_n 2, 1) := by decide +kernel
theorem dQ19_6 : decode jdk_42_method_74_code 6 = .ok (.aload_n 3, 1) := by decide +kernel
theorem dQ19_7 : decode jdk_42_method_74_code 7 = .ok (.iload 4, 2) := by decide +kernel
theorem dQ19_9 : decode jdk_42_method_74_code 9 = .ok (.iload 5, 2) := by decide +kernel
theorem dQ19_11 : decode jdk_42_method_74_code 11 = .ok (.invokevirtual 610, 3) := by decide +kernel
theorem dQ19_14 : decode jdk_42_method_74_code 14 = .ok (.ireturn, 1) := by decide +kernel
theorem dQ19_15 : decode jdk_42_method_74_code 15 = .ok (.iload 4, 2) := by decide +kernel
theorem dQ19_17 : decode jdk_42_method_74_code 17 = .ok (.ifCond .lt 38, 3) := by decide +kernel
theorem dQ19_20 : decode jdk_42_method_74_code 20 = .ok (.iload_n 2, 1) := by decide +kernel
theorem dQ19_21 : decode jdk_42_method_74_code 21 = .ok (.ifCond .lt 34, 3) := by decide +kernel
theorem dQ19_24 : decode jdk_42_method_74_code 24 = .ok (.iload_n 2, 1) := by decide +kernel
theorem dQ19_25 : decode jdk_42_method_74_code 25 = .ok (.i2l, 1) := by decide +kernel
theorem dQ19_26 : decode jdk_42_method_74_code 26 = .ok (.aload_n 0, 1) := by decide +kernel
theorem dQ19_27 : decode jdk_42_method_74_code 27 = .ok (.invokevirtual 505, 3) := by decide +kernel
theorem dQ19_30 : decode jdk_42_method_74_code 30 = .ok (.i2l, 1) := by decide +kernel
theorem dQ19_31 : decode jdk_42_method_74_code 31 = .ok (.iload 5, 2) := by decide +kernel
theorem dQ19_33 : decode jdk_42_method_74_code 33 = .ok (.i2l, 1) := by decide +kernel
theorem dQ19_34 : decode jdk_42_method_74_code 34 = .ok (.lsub, 1) := by decide +kernel
theorem dQ19_35 : decode jdk_42_method_74_code 35 = .ok (.lcmp, 1) := by decide +kernel
theorem dQ19_36 : decode jdk_42_method_74_code 36 = .ok (.ifCond .gt 19, 3) := by decide +kernel
theorem dQ19_39 : decode jdk_42_method_74_code 39 = .ok (.iload 4, 2) := by decide +kernel
theorem dQ19_41 : decode jdk_42_method_74_code 41 = .ok (.i2l, 1) := by decide +kernel
theorem dQ19_42 : decode jdk_42_method_74_code 42 = .ok (.aload_n 3, 1) := by decide +kernel
theorem dQ19_43 : decode jdk_42_method_74_code 43 = .ok (.invokevirtual 505, 3) := by decide +kernel
theorem dQ19_46 : decode jdk_42_method_74_code 46 = .ok (.i2l, 1) := by decide +kernel
theorem dQ19_47 : decode jdk_42_method_74_code 47 = .ok (.iload 5, 2) := by decide +kernel
theorem dQ19_49 : decode jdk_42_method_74_code 49 = .ok (.i2l, 1) := by decide +kernel
theorem dQ19_50 : decode jdk_42_method_74_code 50 = .ok (.lsub, 1) := by decide +kernel
theorem dQ19_51 : decode jdk_42_method_74_code 51 = .ok (.lcmp, 1) := by decide +kernel
theorem dQ19_52 : decode jdk_42_method_74_code 52 = .ok (.ifCond .le 5, 3) := by decide +kernel
theorem dQ19_55 : decode jdk_42_method_74_code 55 = .ok (.iconst 0, 1) := by decide +kernel
theorem dQ19_56 : decode jdk_42_method_74_code 56 = .ok (.ireturn, 1) := by decide +kernel
theorem dQ19_57 : decode jdk_42_method_74_code 57 = .ok (.aload_n 0, 1) := by decide +kernel
theorem dQ19_58 : decode jdk_42_method_74_code 58 = .ok (.getfield 9, 3) := by decide +kernel
theorem dQ19_61 : decode jdk_42_method_74_code 61 = .ok (.astore 6, 2) := by decide +kernel
theorem dQ19_63 : decode jdk_42_method_74_code 63 = .ok (.aload_n 3, 1) := by decide +kernel
theorem dQ19_64 : decode jdk_42_method_74_code 64 = .ok (.getfield 9, 3) := by decide +kernel
theorem dQ19_67 : decode jdk_42_method_74_code 67 = .ok (.astore 7, 2) := by decide +kernel
theorem dQ19_69 : decode jdk_42_method_74_code 69 = .ok (.aload_n 0, 1) := by decide +kernel
theorem dQ19_70 : decode jdk_42_method_74_code 70 = .ok (.invokevirtual 335, 3) := by decide +kernel
theorem dQ19_73 : decode jdk_42_method_74_code 73 = .ok (.istore 8, 2) := by decide +kernel
theorem dQ19_75 : decode jdk_42_method_74_code 75 = .ok (.iload 8, 2) := by decide +kernel
theorem dQ19_77 : decode jdk_42_method_74_code 77 = .ok (.aload_n 3, 1) := by decide +kernel
theorem dQ19_78 : decode jdk_42_method_74_code 78 = .ok (.invokevirtual 335, 3) := by decide +kernel
theorem dQ19_81 : decode jdk_42_method_74_code 81 = .ok (.if_icmp .ne 36, 3) := by decide +kernel
theorem dQ19_84 : decode jdk_42_method_74_code 84 = .ok (.iload 8, 2) := by decide +kernel
theorem dQ19_86 : decode jdk_42_method_74_code 86 = .ok (.ifCond .ne 18, 3) := by decide +kernel
theorem dQ19_89 : decode jdk_42_method_74_code 89 = .ok (.aload 6, 2) := by decide +kernel
theorem dQ19_91 : decode jdk_42_method_74_code 91 = .ok (.iload_n 2, 1) := by decide +kernel
theorem dQ19_92 : decode jdk_42_method_74_code 92 = .ok (.aload 7, 2) := by decide +kernel
theorem dQ19_94 : decode jdk_42_method_74_code 94 = .ok (.iload 4, 2) := by decide +kernel
theorem dQ19_96 : decode jdk_42_method_74_code 96 = .ok (.iload 5, 2) := by decide +kernel
theorem dQ19_98 : decode jdk_42_method_74_code 98 = .ok (.invokestatic 613, 3) := by decide +kernel
theorem dQ19_101 : decode jdk_42_method_74_code 101 = .ok (.goto 15, 3) := by decide +kernel
theorem dQ19_104 : decode jdk_42_method_74_code 104 = .ok (.aload 6, 2) := by decide +kernel
theorem dQ19_106 : decode jdk_42_method_74_code 106 = .ok (.iload_n 2, 1) := by decide +kernel
theorem dQ19_107 : decode jdk_42_method_74_code 107 = .ok (.aload 7, 2) := by decide +kernel
theorem dQ19_109 : decode jdk_42_method_74_code 109 = .ok (.iload 4, 2) := by decide +kernel
theorem dQ19_111 : decode jdk_42_method_74_code 111 = .ok (.iload 5, 2) := by decide +kernel
theorem dQ19_113 : decode jdk_42_method_74_code 113 = .ok (.invokestatic 617, 3) := by decide +kernel
theorem dQ19_116 : decode jdk_42_method_74_code 116 = .ok (.ireturn, 1) := by decide +kernel
theorem dQ19_117 : decode jdk_42_method_74_code 117 = .ok (.iload 8, 2) := by decide +kernel
theorem dQ19_119 : decode jdk_42_method_74_code 119 = .ok (.ifCond .ne 18, 3) := by decide +kernel
theorem dQ19_122 : decode jdk_42_method_74_code 122 = .ok (.aload 6, 2) := by decide +kernel
theorem dQ19_124 : decode jdk_42_method_74_code 124 = .ok (.iload_n 2, 1) := by decide +kernel
theorem dQ19_125 : decode jdk_42_method_74_code 125 = .ok (.aload 7, 2) := by decide +kernel
theorem dQ19_127 : decode jdk_42_method_74_code 127 = .ok (.iload 4, 2) := by decide +kernel
theorem dQ19_129 : decode jdk_42_method_74_code 129 = .ok (.iload 5, 2) := by decide +kernel
theorem dQ19_131 : decode jdk_42_method_74_code 131 = .ok (.invokestatic 618, 3) := by decide +kernel
theorem dQ19_134 : decode jdk_42_method_74_code 134 = .ok (.goto 15, 3) := by decide +kernel
theorem dQ19_137 : decode jdk_42_method_74_code 137 = .ok (.aload 6, 2) := by decide +kernel
theorem dQ19_139 : decode jdk_42_method_74_code 139 = .ok (.iload_n 2, 1) := by decide +kernel
theorem dQ19_140 : decode jdk_42_method_74_code 140 = .ok (.aload 7, 2) := by decide +kernel
theorem dQ19_142 : decode jdk_42_method_74_code 142 = .ok (.iload 4, 2) := by decide +kernel
theorem dQ19_144 : decode jdk_42_method_74_code 144 = .ok (.iload 5, 2) := by decide +kernel
theorem dQ19_146 : decode jdk_42_method_74_code 146 = .ok (.invokestatic 621, 3) := by decide +kernel
theorem dQ19_149 : decode jdk_42_method_74_code 149 = .ok (.ireturn, 1) := by decide +kernel
theorem dQ20_0 : decode jdk_43_method_30_code 0 = .ok (.iload_n 1, 1) := by decide +kernel
theorem dQ20_1 : decode jdk_43_method_30_code 1 = .ok (.iload 4, 2) := by decide +kernel
theorem dQ20_3 : decode jdk_43_method_30_code 3 = .ok (.iadd, 1) := by decide +kernel
theorem dQ20_4 : decode jdk_43_method_30_code 4 = .ok (.istore 5, 2) := by decide +kernel
theorem dQ20_6 : decode jdk_43_method_30_code 6 = .ok (.iload_n 1, 1) := by decide +kernel
theorem dQ20_7 : decode jdk_43_method_30_code 7 = .ok (.iload 5, 2) := by decide +kernel
theorem dQ20_9 : decode jdk_43_method_30_code 9 = .ok (.if_icmp .ge 34, 3) := by decide +kernel
theorem dQ20_12 : decode jdk_43_method_30_code 12 = .ok (.aload_n 0, 1) := by decide +kernel
theorem dQ20_13 : decode jdk_43_method_30_code 13 = .ok (.iload_n 1, 1) := by decide +kernel
theorem dQ20_14 : decode jdk_43_method_30_code 14 = .ok (.iinc 1 1, 3) := by decide +kernel
theorem dQ20_17 : decode jdk_43_method_30_code 17 = .ok (.baload, 1) := by decide +kernel
theorem dQ20_18 : decode jdk_43_method_30_code 18 = .ok (.istore 6, 2) := by decide +kernel
theorem dQ20_20 : decode jdk_43_method_30_code 20 = .ok (.aload_n 2, 1) := by decide +kernel
theorem dQ20_21 : decode jdk_43_method_30_code 21 = .ok (.iload_n 3, 1) := by decide +kernel
theorem dQ20_22 : decode jdk_43_method_30_code 22 = .ok (.iinc 3 1, 3) := by decide +kernel
theorem dQ20_25 : decode jdk_43_method_30_code 25 = .ok (.baload, 1) := by decide +kernel
theorem dQ20_26 : decode jdk_43_method_30_code 26 = .ok (.istore 7, 2) := by decide +kernel
theorem dQ20_28 : decode jdk_43_method_30_code 28 = .ok (.iload 6, 2) := by decide +kernel
theorem dQ20_30 : decode jdk_43_method_30_code 30 = .ok (.iload 7, 2) := by decide +kernel
theorem dQ20_32 : decode jdk_43_method_30_code 32 = .ok (.invokestatic 153, 3) := by decide +kernel
theorem dQ20_35 : decode jdk_43_method_30_code 35 = .ok (.ifCond .eq 6, 3) := by decide +kernel
theorem dQ20_38 : decode jdk_43_method_30_code 38 = .ok (.goto (-32), 3) := by decide +kernel
theorem dQ20_41 : decode jdk_43_method_30_code 41 = .ok (.iconst 0, 1) := by decide +kernel
theorem dQ20_42 : decode jdk_43_method_30_code 42 = .ok (.ireturn, 1) := by decide +kernel
theorem dQ20_43 : decode jdk_43_method_30_code 43 = .ok (.iconst 1, 1) := by decide +kernel
theorem dQ20_44 : decode jdk_43_method_30_code 44 = .ok (.ireturn, 1) := by decide +kernel
theorem dQ21_0 : decode jdk_116_method_22_code 0 = .ok (.iload_n 0, 1) := by decide +kernel
theorem dQ21_1 : decode jdk_116_method_22_code 1 = .ok (.iload_n 1, 1) := by decide +kernel
theorem dQ21_2 : decode jdk_116_method_22_code 2 = .ok (.if_icmp .ne 5, 3) := by decide +kernel
theorem dQ21_5 : decode jdk_116_method_22_code 5 = .ok (.iconst 1, 1) := by decide +kernel
theorem dQ21_6 : decode jdk_116_method_22_code 6 = .ok (.ireturn, 1) := by decide +kernel
theorem dQ21_7 : decode jdk_116_method_22_code 7 = .ok (.iload_n 0, 1) := by decide +kernel
theorem dQ21_8 : decode jdk_116_method_22_code 8 = .ok (.sipush 223, 3) := by decide +kernel
theorem dQ21_11 : decode jdk_116_method_22_code 11 = .ok (.iand, 1) := by decide +kernel
theorem dQ21_12 : decode jdk_116_method_22_code 12 = .ok (.istore_n 2, 1) := by decide +kernel
theorem dQ21_13 : decode jdk_116_method_22_code 13 = .ok (.iload_n 2, 1) := by decide +kernel
theorem dQ21_14 : decode jdk_116_method_22_code 14 = .ok (.bipush 65, 2) := by decide +kernel
theorem dQ21_16 : decode jdk_116_method_22_code 16 = .ok (.if_icmp .ge 5, 3) := by decide +kernel
theorem dQ21_19 : decode jdk_116_method_22_code 19 = .ok (.iconst 0, 1) := by decide +kernel
theorem dQ21_20 : decode jdk_116_method_22_code 20 = .ok (.ireturn, 1) := by decide +kernel
theorem dQ21_21 : decode jdk_116_method_22_code 21 = .ok (.iload_n 2, 1) := by decide +kernel
theorem dQ21_22 : decode jdk_116_method_22_code 22 = .ok (.bipush 90, 2) := by decide +kernel
theorem dQ21_24 : decode jdk_116_method_22_code 24 = .ok (.if_icmp .le 24, 3) := by decide +kernel
theorem dQ21_27 : decode jdk_116_method_22_code 27 = .ok (.iload_n 2, 1) := by decide +kernel
theorem dQ21_28 : decode jdk_116_method_22_code 28 = .ok (.sipush 192, 3) := by decide +kernel
theorem dQ21_31 : decode jdk_116_method_22_code 31 = .ok (.if_icmp .lt 30, 3) := by decide +kernel
theorem dQ21_34 : decode jdk_116_method_22_code 34 = .ok (.iload_n 2, 1) := by decide +kernel
theorem dQ21_35 : decode jdk_116_method_22_code 35 = .ok (.sipush 222, 3) := by decide +kernel
theorem dQ21_38 : decode jdk_116_method_22_code 38 = .ok (.if_icmp .gt 23, 3) := by decide +kernel
theorem dQ21_41 : decode jdk_116_method_22_code 41 = .ok (.iload_n 2, 1) := by decide +kernel
theorem dQ21_42 : decode jdk_116_method_22_code 42 = .ok (.sipush 215, 3) := by decide +kernel
theorem dQ21_45 : decode jdk_116_method_22_code 45 = .ok (.if_icmp .eq 16, 3) := by decide +kernel
theorem dQ21_48 : decode jdk_116_method_22_code 48 = .ok (.iload_n 2, 1) := by decide +kernel
theorem dQ21_49 : decode jdk_116_method_22_code 49 = .ok (.iload_n 1, 1) := by decide +kernel
theorem dQ21_50 : decode jdk_116_method_22_code 50 = .ok (.sipush 223, 3) := by decide +kernel
theorem dQ21_53 : decode jdk_116_method_22_code 53 = .ok (.iand, 1) := by decide +kernel
theorem dQ21_54 : decode jdk_116_method_22_code 54 = .ok (.if_icmp .ne 7, 3) := by decide +kernel
theorem dQ21_57 : decode jdk_116_method_22_code 57 = .ok (.iconst 1, 1) := by decide +kernel
theorem dQ21_58 : decode jdk_116_method_22_code 58 = .ok (.goto 4, 3) := by decide +kernel
theorem dQ21_61 : decode jdk_116_method_22_code 61 = .ok (.iconst 0, 1) := by decide +kernel
theorem dQ21_62 : decode jdk_116_method_22_code 62 = .ok (.ireturn, 1) := by decide +kernel
theorem dQ22_0 : decode jdk_65_method_132_code 0 = .ok (.iload_n 1, 1) := by decide +kernel
theorem dQ22_1 : decode jdk_65_method_132_code 1 = .ok (.ifCond .ne 9, 3) := by decide +kernel
theorem dQ22_4 : decode jdk_65_method_132_code 4 = .ok (.iload_n 2, 1) := by decide +kernel
theorem dQ22_5 : decode jdk_65_method_132_code 5 = .ok (.aload_n 0, 1) := by decide +kernel
theorem dQ22_6 : decode jdk_65_method_132_code 6 = .ok (.arraylength, 1) := by decide +kernel
theorem dQ22_7 : decode jdk_65_method_132_code 7 = .ok (.if_icmp .eq 10, 3) := by decide +kernel
theorem dQ22_10 : decode jdk_65_method_132_code 10 = .ok (.aload_n 0, 1) := by decide +kernel
theorem dQ22_11 : decode jdk_65_method_132_code 11 = .ok (.iload_n 1, 1) := by decide +kernel
theorem dQ22_12 : decode jdk_65_method_132_code 12 = .ok (.iload_n 2, 1) := by decide +kernel
theorem dQ22_13 : decode jdk_65_method_132_code 13 = .ok (.invokestatic 339, 3) := by decide +kernel
theorem dQ22_16 : decode jdk_65_method_132_code 16 = .ok (.areturn, 1) := by decide +kernel
theorem dQ22_17 : decode jdk_65_method_132_code 17 = .ok (.aload_n 0, 1) := by decide +kernel
theorem dQ22_18 : decode jdk_65_method_132_code 18 = .ok (.invokevirtual 310, 3) := by decide +kernel
theorem dQ22_21 : decode jdk_65_method_132_code 21 = .ok (.checkcast 311, 3) := by decide +kernel
theorem dQ22_24 : decode jdk_65_method_132_code 24 = .ok (.areturn, 1) := by decide +kernel
theorem dQ23_0 : decode jdk_65_method_133_code 0 = .ok (.iload_n 1, 1) := by decide +kernel
theorem dQ23_1 : decode jdk_65_method_133_code 1 = .ok (.iload_n 2, 1) := by decide +kernel
theorem dQ23_2 : decode jdk_65_method_133_code 2 = .ok (.invokestatic 343, 3) := by decide +kernel
theorem dQ23_5 : decode jdk_65_method_133_code 5 = .ok (.iload_n 2, 1) := by decide +kernel
theorem dQ23_6 : decode jdk_65_method_133_code 6 = .ok (.iload_n 1, 1) := by decide +kernel
theorem dQ23_7 : decode jdk_65_method_133_code 7 = .ok (.isub, 1) := by decide +kernel
theorem dQ23_8 : decode jdk_65_method_133_code 8 = .ok (.istore_n 3, 1) := by decide +kernel
theorem dQ23_9 : decode jdk_65_method_133_code 9 = .ok (.iload_n 3, 1) := by decide +kernel
theorem dQ23_10 : decode jdk_65_method_133_code 10 = .ok (.newarray .byte, 2) := by decide +kernel
theorem dQ23_12 : decode jdk_65_method_133_code 12 = .ok (.astore 4, 2) := by decide +kernel
theorem dQ23_14 : decode jdk_65_method_133_code 14 = .ok (.aload_n 0, 1) := by decide +kernel
theorem dQ23_15 : decode jdk_65_method_133_code 15 = .ok (.iload_n 1, 1) := by decide +kernel
theorem dQ23_16 : decode jdk_65_method_133_code 16 = .ok (.aload 4, 2) := by decide +kernel
theorem dQ23_18 : decode jdk_65_method_133_code 18 = .ok (.iconst 0, 1) := by decide +kernel
theorem dQ23_19 : decode jdk_65_method_133_code 19 = .ok (.aload_n 0, 1) := by decide +kernel
theorem dQ23_20 : decode jdk_65_method_133_code 20 = .ok (.arraylength, 1) := by decide +kernel
theorem dQ23_21 : decode jdk_65_method_133_code 21 = .ok (.iload_n 1, 1) := by decide +kernel
theorem dQ23_22 : decode jdk_65_method_133_code 22 = .ok (.isub, 1) := by decide +kernel
theorem dQ23_23 : decode jdk_65_method_133_code 23 = .ok (.iload_n 3, 1) := by decide +kernel
theorem dQ23_24 : decode jdk_65_method_133_code 24 = .ok (.invokestatic 304, 3) := by decide +kernel
theorem dQ23_27 : decode jdk_65_method_133_code 27 = .ok (.invokestatic 150, 3) := by decide +kernel
theorem dQ23_30 : decode jdk_65_method_133_code 30 = .ok (.aload 4, 2) := by decide +kernel
theorem dQ23_32 : decode jdk_65_method_133_code 32 = .ok (.areturn, 1) := by decide +kernel
theorem dQ24_0 : decode jdk_65_method_131_code 0 = .ok (.iload_n 1, 1) := by decide +kernel
theorem dQ24_1 : decode jdk_65_method_131_code 1 = .ok (.iload_n 0, 1) := by decide +kernel
theorem dQ24_2 : decode jdk_65_method_131_code 2 = .ok (.if_icmp .ge 35, 3) := by decide +kernel
theorem dQ24_5 : decode jdk_65_method_131_code 5 = .ok (.new 43, 3) := by decide +kernel
theorem dQ24_8 : decode jdk_65_method_131_code 8 = .ok (.dup, 1) := by decide +kernel
theorem dQ24_9 : decode jdk_65_method_131_code 9 = .ok (.new 45, 3) := by decide +kernel
theorem dQ24_12 : decode jdk_65_method_131_code 12 = .ok (.dup, 1) := by decide +kernel
theorem dQ24_13 : decode jdk_65_method_131_code 13 = .ok (.invokespecial 47, 3) := by decide +kernel
theorem dQ24_16 : decode jdk_65_method_131_code 16 = .ok (.iload_n 0, 1) := by decide +kernel
theorem dQ24_17 : decode jdk_65_method_131_code 17 = .ok (.invokevirtual 54, 3) := by decide +kernel
theorem dQ24_20 : decode jdk_65_method_131_code 20 = .ok (.ldc_w 337, 3) := by decide +kernel
theorem dQ24_23 : decode jdk_65_method_131_code 23 = .ok (.invokevirtual 50, 3) := by decide +kernel
theorem dQ24_26 : decode jdk_65_method_131_code 26 = .ok (.iload_n 1, 1) := by decide +kernel
theorem dQ24_27 : decode jdk_65_method_131_code 27 = .ok (.invokevirtual 54, 3) := by decide +kernel
theorem dQ24_30 : decode jdk_65_method_131_code 30 = .ok (.invokevirtual 61, 3) := by decide +kernel
theorem dQ24_33 : decode jdk_65_method_131_code 33 = .ok (.invokespecial 65, 3) := by decide +kernel
theorem dQ24_36 : decode jdk_65_method_131_code 36 = .ok (.athrow, 1) := by decide +kernel
theorem dQ24_37 : decode jdk_65_method_131_code 37 = .ok (.return_, 1) := by decide +kernel
theorem dQ25_0 : decode jdk_42_method_151_code 0 = .ok (.aload_n 0, 1) := by decide +kernel
theorem dQ25_1 : decode jdk_42_method_151_code 1 = .ok (.invokespecial 1, 3) := by decide +kernel
theorem dQ25_4 : decode jdk_42_method_151_code 4 = .ok (.aload_n 0, 1) := by decide +kernel
theorem dQ25_5 : decode jdk_42_method_151_code 5 = .ok (.aload_n 1, 1) := by decide +kernel
theorem dQ25_6 : decode jdk_42_method_151_code 6 = .ok (.putfield 9, 3) := by decide +kernel
theorem dQ25_9 : decode jdk_42_method_151_code 9 = .ok (.aload_n 0, 1) := by decide +kernel
theorem dQ25_10 : decode jdk_42_method_151_code 10 = .ok (.iload_n 2, 1) := by decide +kernel
theorem dQ25_11 : decode jdk_42_method_151_code 11 = .ok (.putfield 15, 3) := by decide +kernel
theorem dQ25_14 : decode jdk_42_method_151_code 14 = .ok (.return_, 1) := by decide +kernel
theorem dQ26_0 : decode jdk_42_method_92_code 0 = .ok (.aload_n 0, 1) := by decide +kernel
theorem dQ26_1 : decode jdk_42_method_92_code 1 = .ok (.invokevirtual 505, 3) := by decide +kernel
theorem dQ26_4 : decode jdk_42_method_92_code 4 = .ok (.istore_n 3, 1) := by decide +kernel
theorem dQ26_5 : decode jdk_42_method_92_code 5 = .ok (.iload_n 1, 1) := by decide +kernel
theorem dQ26_6 : decode jdk_42_method_92_code 6 = .ok (.iload_n 2, 1) := by decide +kernel
theorem dQ26_7 : decode jdk_42_method_92_code 7 = .ok (.iload_n 3, 1) := by decide +kernel
theorem dQ26_8 : decode jdk_42_method_92_code 8 = .ok (.invokestatic 521, 3) := by decide +kernel
theorem dQ26_11 : decode jdk_42_method_92_code 11 = .ok (.iload_n 1, 1) := by decide +kernel
theorem dQ26_12 : decode jdk_42_method_92_code 12 = .ok (.ifCond .ne 10, 3) := by decide +kernel
theorem dQ26_15 : decode jdk_42_method_92_code 15 = .ok (.iload_n 2, 1) := by decide +kernel
theorem dQ26_16 : decode jdk_42_method_92_code 16 = .ok (.iload_n 3, 1) := by decide +kernel
theorem dQ26_17 : decode jdk_42_method_92_code 17 = .ok (.if_icmp .ne 5, 3) := by decide +kernel
theorem dQ26_20 : decode jdk_42_method_92_code 20 = .ok (.aload_n 0, 1) := by decide +kernel
theorem dQ26_21 : decode jdk_42_method_92_code 21 = .ok (.areturn, 1) := by decide +kernel
theorem dQ26_22 : decode jdk_42_method_92_code 22 = .ok (.iload_n 2, 1) := by decide +kernel
theorem dQ26_23 : decode jdk_42_method_92_code 23 = .ok (.iload_n 1, 1) := by decide +kernel
theorem dQ26_24 : decode jdk_42_method_92_code 24 = .ok (.isub, 1) := by decide +kernel
theorem dQ26_25 : decode jdk_42_method_92_code 25 = .ok (.istore 4, 2) := by decide +kernel
theorem dQ26_27 : decode jdk_42_method_92_code 27 = .ok (.aload_n 0, 1) := by decide +kernel
theorem dQ26_28 : decode jdk_42_method_92_code 28 = .ok (.invokevirtual 492, 3) := by decide +kernel
theorem dQ26_31 : decode jdk_42_method_92_code 31 = .ok (.ifCond .eq 16, 3) := by decide +kernel
theorem dQ26_34 : decode jdk_42_method_92_code 34 = .ok (.aload_n 0, 1) := by decide +kernel
theorem dQ26_35 : decode jdk_42_method_92_code 35 = .ok (.getfield 9, 3) := by decide +kernel
theorem dQ26_38 : decode jdk_42_method_92_code 38 = .ok (.iload_n 1, 1) := by decide +kernel
theorem dQ26_39 : decode jdk_42_method_92_code 39 = .ok (.iload 4, 2) := by decide +kernel
theorem dQ26_41 : decode jdk_42_method_92_code 41 = .ok (.invokestatic 685, 3) := by decide +kernel
theorem dQ26_44 : decode jdk_42_method_92_code 44 = .ok (.goto 13, 3) := by decide +kernel
theorem dQ26_47 : decode jdk_42_method_92_code 47 = .ok (.aload_n 0, 1) := by decide +kernel
theorem dQ26_48 : decode jdk_42_method_92_code 48 = .ok (.getfield 9, 3) := by decide +kernel
theorem dQ26_51 : decode jdk_42_method_92_code 51 = .ok (.iload_n 1, 1) := by decide +kernel
theorem dQ26_52 : decode jdk_42_method_92_code 52 = .ok (.iload 4, 2) := by decide +kernel
theorem dQ26_54 : decode jdk_42_method_92_code 54 = .ok (.invokestatic 689, 3) := by decide +kernel
theorem dQ26_57 : decode jdk_42_method_92_code 57 = .ok (.areturn, 1) := by decide +kernel
theorem dQ27_0 : decode jdk_42_method_158_code 0 = .ok (.iload_n 0, 1) := by decide +kernel
theorem dQ27_1 : decode jdk_42_method_158_code 1 = .ok (.iload_n 1, 1) := by decide +kernel
theorem dQ27_2 : decode jdk_42_method_158_code 2 = .ok (.iload_n 2, 1) := by decide +kernel
theorem dQ27_3 : decode jdk_42_method_158_code 3 = .ok (.getstatic 1053, 3) := by decide +kernel
theorem dQ27_6 : decode jdk_42_method_158_code 6 = .ok (.invokestatic 1062, 3) := by decide +kernel
theorem dQ27_9 : decode jdk_42_method_158_code 9 = .ok (.pop, 1) := by decide +kernel
theorem dQ27_10 : decode jdk_42_method_158_code 10 = .ok (.return_, 1) := by decide +kernel
theorem dQ28_0 : decode jdk_41_method_12_code 0 = .ok (.iload_n 0, 1) := by decide +kernel
theorem dQ28_1 : decode jdk_41_method_12_code 1 = .ok (.ifCond .lt 13, 3) := by decide +kernel
theorem dQ28_4 : decode jdk_41_method_12_code 4 = .ok (.iload_n 0, 1) := by decide +kernel
theorem dQ28_5 : decode jdk_41_method_12_code 5 = .ok (.iload_n 1, 1) := by decide +kernel
theorem dQ28_6 : decode jdk_41_method_12_code 6 = .ok (.if_icmp .gt 8, 3) := by decide +kernel
theorem dQ28_9 : decode jdk_41_method_12_code 9 = .ok (.iload_n 1, 1) := by decide +kernel
theorem dQ28_10 : decode jdk_41_method_12_code 10 = .ok (.iload_n 2, 1) := by decide +kernel
theorem dQ28_11 : decode jdk_41_method_12_code 11 = .ok (.if_icmp .le 11, 3) := by decide +kernel
theorem dQ28_14 : decode jdk_41_method_12_code 14 = .ok (.aload_n 3, 1) := by decide +kernel
theorem dQ28_15 : decode jdk_41_method_12_code 15 = .ok (.iload_n 0, 1) := by decide +kernel
theorem dQ28_16 : decode jdk_41_method_12_code 16 = .ok (.iload_n 1, 1) := by decide +kernel
theorem dQ28_17 : decode jdk_41_method_12_code 17 = .ok (.iload_n 2, 1) := by decide +kernel
theorem dQ28_18 : decode jdk_41_method_12_code 18 = .ok (.invokestatic 99, 3) := by decide +kernel
theorem dQ28_21 : decode jdk_41_method_12_code 21 = .ok (.athrow, 1) := by decide +kernel
theorem dQ28_22 : decode jdk_41_method_12_code 22 = .ok (.iload_n 0, 1) := by decide +kernel
theorem dQ28_23 : decode jdk_41_method_12_code 23 = .ok (.ireturn, 1) := by decide +kernel
theorem dQ29_0 : decode jdk_42_method_154_code 0 = .ok (.getstatic 38, 3) := by decide +kernel
theorem dQ29_3 : decode jdk_42_method_154_code 3 = .ok (.ifCond .eq 14, 3) := by decide +kernel
theorem dQ29_6 : decode jdk_42_method_154_code 6 = .ok (.aload_n 0, 1) := by decide +kernel
theorem dQ29_7 : decode jdk_42_method_154_code 7 = .ok (.getfield 15, 3) := by decide +kernel
theorem dQ29_10 : decode jdk_42_method_154_code 10 = .ok (.ifCond .ne 7, 3) := by decide +kernel
theorem dQ29_13 : decode jdk_42_method_154_code 13 = .ok (.iconst 1, 1) := by decide +kernel
theorem dQ29_14 : decode jdk_42_method_154_code 14 = .ok (.goto 4, 3) := by decide +kernel
theorem dQ29_17 : decode jdk_42_method_154_code 17 = .ok (.iconst 0, 1) := by decide +kernel
theorem dQ29_18 : decode jdk_42_method_154_code 18 = .ok (.ireturn, 1) := by decide +kernel
theorem dQ30_0 : decode jdk_42_method_54_code 0 = .ok (.aload_n 0, 1) := by decide +kernel
theorem dQ30_1 : decode jdk_42_method_54_code 1 = .ok (.getfield 9, 3) := by decide +kernel
theorem dQ30_4 : decode jdk_42_method_54_code 4 = .ok (.arraylength, 1) := by decide +kernel
theorem dQ30_5 : decode jdk_42_method_54_code 5 = .ok (.aload_n 0, 1) := by decide +kernel
theorem dQ30_6 : decode jdk_42_method_54_code 6 = .ok (.invokevirtual 335, 3) := by decide +kernel
theorem dQ30_9 : decode jdk_42_method_54_code 9 = .ok (.ishr, 1) := by decide +kernel
theorem dQ30_10 : decode jdk_42_method_54_code 10 = .ok (.ireturn, 1) := by decide +kernel
theorem pd___CI_Ljava_lang_String_ : parseMethodDescriptor "([CI)Ljava/lang/String;" = some ⟨[(.array .char), .int], (some (.object "java/lang/String"))⟩ := by decide +kernel
theorem pd___CI_I : parseMethodDescriptor "([CI)I" = some ⟨[(.array .char), .int], (some .int)⟩ := by decide +kernel
theorem pd___CII_I : parseMethodDescriptor "([CII)I" = some ⟨[(.array .char), .int, .int], (some .int)⟩ := by decide +kernel
theorem pd___CI_CII_Z : parseMethodDescriptor "([CI[CII)Z" = some ⟨[(.array .char), .int, (.array .char), .int, .int], (some .boolean)⟩ := by decide +kernel
theorem pd__C_I : parseMethodDescriptor "(C)I" = some ⟨[.char], (some .int)⟩ := by decide +kernel
theorem pd__Ljava_lang_String_Ljava_lang_String__Z : parseMethodDescriptor "(Ljava/lang/String;Ljava/lang/String;)Z" = some ⟨[(.object "java/lang/String"), (.object "java/lang/String")], (some .boolean)⟩ := by decide +kernel
theorem pd__I_I : parseMethodDescriptor "(I)I" = some ⟨[.int], (some .int)⟩ := by decide +kernel
theorem pd__II_I : parseMethodDescriptor "(II)I" = some ⟨[.int, .int], (some .int)⟩ := by decide +kernel
theorem pd___B : parseMethodDescriptor "()B" = some ⟨[], (some .byte)⟩ := by decide +kernel
theorem pd___BIII_I : parseMethodDescriptor "([BIII)I" = some ⟨[(.array .byte), .int, .int, .int], (some .int)⟩ := by decide +kernel
theorem pd__I_Z : parseMethodDescriptor "(I)Z" = some ⟨[.int], (some .boolean)⟩ := by decide +kernel
theorem pd___Ljava_lang_String_ : parseMethodDescriptor "()Ljava/lang/String;" = some ⟨[], (some (.object "java/lang/String"))⟩ := by decide +kernel
theorem pd___B_Ljava_lang_String_ : parseMethodDescriptor "([B)Ljava/lang/String;" = some ⟨[(.array .byte)], (some (.object "java/lang/String"))⟩ := by decide +kernel
theorem pd___BII_Ljava_lang_String_ : parseMethodDescriptor "([BII)Ljava/lang/String;" = some ⟨[(.array .byte), .int, .int], (some (.object "java/lang/String"))⟩ := by decide +kernel
theorem pd__Ljava_lang_String__Z : parseMethodDescriptor "(Ljava/lang/String;)Z" = some ⟨[(.object "java/lang/String")], (some .boolean)⟩ := by decide +kernel
theorem pd__ZILjava_lang_String_II_Z : parseMethodDescriptor "(ZILjava/lang/String;II)Z" = some ⟨[.boolean, .int, (.object "java/lang/String"), .int, .int], (some .boolean)⟩ := by decide +kernel
theorem pd___BI_BII_Z : parseMethodDescriptor "([BI[BII)Z" = some ⟨[(.array .byte), .int, (.array .byte), .int, .int], (some .boolean)⟩ := by decide +kernel
theorem pd__BB_Z : parseMethodDescriptor "(BB)Z" = some ⟨[.byte, .byte], (some .boolean)⟩ := by decide +kernel
theorem pd___BII__B : parseMethodDescriptor "([BII)[B" = some ⟨[(.array .byte), .int, .int], (some (.array .byte))⟩ := by decide +kernel
theorem pd__II_V : parseMethodDescriptor "(II)V" = some ⟨[.int, .int], none⟩ := by decide +kernel
theorem pd___BB_V : parseMethodDescriptor "([BB)V" = some ⟨[(.array .byte), .byte], none⟩ := by decide +kernel
theorem pd__II_Ljava_lang_String_ : parseMethodDescriptor "(II)Ljava/lang/String;" = some ⟨[.int, .int], (some (.object "java/lang/String"))⟩ := by decide +kernel
theorem pd__III_V : parseMethodDescriptor "(III)V" = some ⟨[.int, .int, .int], none⟩ := by decide +kernel
theorem pd__IIILjava_util_function_BiFunction__I : parseMethodDescriptor "(IIILjava/util/function/BiFunction;)I" = some ⟨[.int, .int, .int, (.object "java/util/function/BiFunction")], (some .int)⟩ := by decide +kernel
theorem pd___Z : parseMethodDescriptor "()Z" = some ⟨[], (some .boolean)⟩ := by decide +kernel
theorem pd___I : parseMethodDescriptor "()I" = some ⟨[], (some .int)⟩ := by decide +kernel
set_option maxRecDepth 65536 in
set_option maxHeartbeats 4000000 in
theorem con_coder (l : Launch) (Z : State) (a0 : Array Value) (hw : ∀ d ∈ tables_1, d.before a0 Z = true) (hEL : EW Z a0 consts_1) (x : Addr) (zc : Int32) (SC : Sta Z Z.heap "java/lang/String" "COMPACT_STRINGS" "Z" (.int zc)) (hzc : ¬ zc = 0) (h0 : Heap) (O : Ext Z.heap h0) (FC : Fld Z h0 x "java/lang/String" "coder" "B" (.int 0)) :
    Ocon l Z consts_1 (⟨"java/lang/String", "coder", "()B"⟩ : MethodName) jdk_42_method_152_code 1 (some .byte) [] ({ frames := 0, cells := 0, slots := 0, locals := 0 } : Room) #[(.ref x)] h0 [] [] (fun v h _ => v = some (.int 0) ∧ h0 = h) := by
  refine own_con (a0 := a0) hEL (plainFor_of_name pn_java_lang_String) ?_
  intro p e s m below meth c T hs W0
  have ef : entryFrame m #[(.ref x)] 1 = mkF m 0 #[.val (.ref x)] [] := by first | rfl | (simp [entryFrame, mkF, argsToLocals, Value.category]; done)
  rw [ef]
  refine g_getS W0 dQ9_0 (pc' := 3) rfl (hw _ (List.mem_of_getElem? (i := 18) rfl)) (SC.ext O) ?_
  intro T90 W89
  refine g_ifN W89 dQ9_3 (pc' := 6) (feq hzc).1 rfl ?_
  refine g_aloadN W89 dQ9_6 (pc' := 7) rfl rfl rfl ?_
  refine g_getF W89 dQ9_7 (pc' := 10) rfl (hw _ (List.mem_of_getElem? (i := 30) rfl)) FC ?_
  intro T92 W91
  refine g_goto W91 dQ9_10 (pc' := 14) (by decide) (by decide) ?_
  exact g_iret W91 dQ9_14 rfl (Or.inr (Or.inr (Or.inl rfl))) rfl ⟨rfl, rfl⟩
set_option maxRecDepth 65536 in
set_option maxHeartbeats 4000000 in
theorem con_isl (l : Launch) (Z : State) (a0 : Array Value) (hw : ∀ d ∈ tables_1, d.before a0 Z = true) (hEL : EW Z a0 consts_1) (x : Addr) (zc : Int32) (SC : Sta Z Z.heap "java/lang/String" "COMPACT_STRINGS" "Z" (.int zc)) (hzc : ¬ zc = 0) (h0 : Heap) (O : Ext Z.heap h0) (FC : Fld Z h0 x "java/lang/String" "coder" "B" (.int 0)) :
    Ocon l Z consts_1 (⟨"java/lang/String", "isLatin1", "()Z"⟩ : MethodName) jdk_42_method_154_code 1 (some .boolean) [] ({ frames := 0, cells := 0, slots := 0, locals := 0 } : Room) #[(.ref x)] h0 [] [] (fun v h _ => v = some (.int 1) ∧ h0 = h) := by
  refine own_con (a0 := a0) hEL (plainFor_of_name pn_java_lang_String) ?_
  intro p e s m below meth c T hs W0
  have ef : entryFrame m #[(.ref x)] 1 = mkF m 0 #[.val (.ref x)] [] := by first | rfl | (simp [entryFrame, mkF, argsToLocals, Value.category]; done)
  rw [ef]
  refine g_getS W0 dQ29_0 (pc' := 3) rfl (hw _ (List.mem_of_getElem? (i := 18) rfl)) (SC.ext O) ?_
  intro T94 W93
  refine g_ifN W93 dQ29_3 (pc' := 6) (feq hzc).1 rfl ?_
  refine g_aloadN W93 dQ29_6 (pc' := 7) rfl rfl rfl ?_
  refine g_getF W93 dQ29_7 (pc' := 10) rfl (hw _ (List.mem_of_getElem? (i := 30) rfl)) FC ?_
  intro T96 W95
  refine g_ifN W95 dQ29_10 (pc' := 13) (teq (by decide : (0 : Int32) = (0 : Int32))).2 rfl ?_
  refine g_iconst W95 dQ29_13 (pc' := 14) rfl (v := 1) rfl ?_
  refine g_goto W95 dQ29_14 (pc' := 18) (by decide) (by decide) ?_
  exact g_iret W95 dQ29_18 rfl (Or.inr (Or.inl rfl)) rfl ⟨rfl, rfl⟩
set_option maxRecDepth 65536 in
set_option maxHeartbeats 4000000 in
theorem con_len (l : Launch) (Z : State) (a0 : Array Value) (hw : ∀ d ∈ tables_1, d.before a0 Z = true) (hEL : EW Z a0 consts_1) (x : Addr) (cs : List Int32) (zc : Int32) (SC : Sta Z Z.heap "java/lang/String" "COMPACT_STRINGS" "Z" (.int zc)) (hzc : ¬ zc = 0) (h0 : Heap) (O : Ext Z.heap h0) (S : OLat Z h0 x cs) :
    Ocon l Z consts_1 (⟨"java/lang/String", "length", "()I"⟩ : MethodName) jdk_42_method_54_code 1 (some .int) [] ({ frames := 1, cells := 0, slots := 0, locals := 13 } : Room) #[(.ref x)] h0 [] [] (fun v h _ => v = some (.int (Int32.ofNat cs.length)) ∧ h0 = h) := by
  refine own_con (a0 := a0) hEL (plainFor_of_name pn_java_lang_String) ?_
  intro p e s m below meth c T hs W0
  have ef : entryFrame m #[(.ref x)] 1 = mkF m 0 #[.val (.ref x)] [] := by first | rfl | (simp [entryFrame, mkF, argsToLocals, Value.category]; done)
  rw [ef]
  obtain ⟨sE, sB, t, kb, sV, sC, sA⟩ := S
  refine g_aloadN W0 dQ30_0 (pc' := 1) rfl rfl rfl ?_
  refine g_getF W0 dQ30_1 (pc' := 4) rfl (hw _ (List.mem_of_getElem? (i := 32) rfl)) sV ?_
  intro T98 W97
  refine g_alen W97 dQ30_4 (pc' := 5) rfl sA ?_
  refine g_aloadN W97 dQ30_5 (pc' := 6) rfl rfl rfl ?_
  refine g_virtual W97 dQ30_6 (pc' := 9) (C := "java/lang/String") rfl (hw _ (List.mem_of_getElem? (i := 61) rfl)) (hw _ (List.mem_of_getElem? (i := 62) rfl)) (hw _ (List.mem_of_getElem? (i := 64) rfl)) (hw _ (List.mem_of_getElem? (i := 64) rfl)) (hw _ (List.mem_of_getElem? (i := 63) rfl)) (hw _ (List.mem_of_getElem? (i := 7) rfl)) (hw _ (List.mem_of_getElem? (i := 65) rfl)) (by decide) sE (con_coder l Z a0 hw hEL x zc SC hzc h0 O sC) pd___B (argsL := []) (st := [(.int (Int32.ofNat cs.length))]) rfl rfl rfl rfl (by decide) (w := 1) (Nat.le_of_eq rfl) (by decide) (by decide) (by decide) (by simp) (fun q hq => nomatch hq) ?_
  intro v99 T100 h101 S104 q102 W105
  have W103 := W105.sf (SF' := []) (fun _ hx => List.mem_append_right _ hx)
  obtain ⟨rfl, rfl⟩ := q102
  refine g_ishr W103 dQ30_9 (pc' := 10) rfl ?_
  rw [StrChars.shr0]
  exact g_iret W103 dQ30_10 rfl (Or.inl rfl) rfl ⟨rfl, rfl⟩
theorem pn_java_lang_StringLatin1 : plainName "java/lang/StringLatin1" = true := by first | (simp [plainName, overriddenIn]; done) | decide +kernel
set_option maxRecDepth 65536 in
set_option maxHeartbeats 4000000 in
theorem con_cae (l : Launch) (Z : State) (a0 : Array Value) (hw : ∀ d ∈ tables_1, d.before a0 Z = true) (hEL : EW Z a0 consts_1) (h0 : Heap) :
    Ocon l Z consts_1 (⟨"java/lang/StringLatin1", "canEncode", "(I)Z"⟩ : MethodName) jdk_43_method_4_code 1 (some .boolean) [] ({ frames := 0, cells := 0, slots := 0, locals := 0 } : Room) #[(.int (59 : Int32))] h0 [] [] (fun v h _ => v = some (.int 1) ∧ h0 = h) := by
  refine own_con (a0 := a0) hEL (plainFor_of_name pn_java_lang_StringLatin1) ?_
  intro p e s m below meth c T hs W0
  have ef : entryFrame m #[(.int (59 : Int32))] 1 = mkF m 0 #[.val (.int (59 : Int32))] [] := by first | rfl | (simp [entryFrame, mkF, argsToLocals, Value.category]; done)
  rw [ef]
  refine g_iloadN W0 dQ11_0 (pc' := 1) rfl rfl ?_
  refine g_ifN W0 dQ11_1 (pc' := 4) (flt (by decide : ¬ ((59 : Int32) < (0 : Int32)))).1 rfl ?_
  refine g_iloadN W0 dQ11_4 (pc' := 5) rfl rfl ?_
  refine g_sipush W0 dQ11_5 (pc' := 8) rfl (v := 255) rfl ?_
  refine g_icN W0 dQ11_8 (pc' := 11) (flt (by decide : ¬ ((255 : Int32) < (59 : Int32)))).2.2.1 rfl ?_
  refine g_iconst W0 dQ11_11 (pc' := 12) rfl (v := 1) rfl ?_
  refine g_goto W0 dQ11_12 (pc' := 16) (by decide) (by decide) ?_
  exact g_iret W0 dQ11_16 rfl (Or.inr (Or.inl rfl)) rfl ⟨rfl, rfl⟩
set_option maxRecDepth 65536 in
set_option maxHeartbeats 4000000 in
theorem con_max (l : Launch) (Z : State) (a0 : Array Value) (hw : ∀ d ∈ tables_1, d.before a0 Z = true) (hEL : EW Z a0 consts_1) (h0 : Heap) :
    Ocon l Z consts_1 (⟨"java/lang/Math", "max", "(II)I"⟩ : MethodName) jdk_29_method_65_code 2 (some .int) [] ({ frames := 0, cells := 0, slots := 0, locals := 0 } : Room) #[(.int (0 : Int32)), (.int (0 : Int32))] h0 [] [] (fun v h _ => v = some (.int 0) ∧ h0 = h) := by
  refine own_con (a0 := a0) hEL (Jvm.Free.JP.mathPlain rfl (by decide)) ?_
  intro p e s m below meth c T hs W0
  have ef : entryFrame m #[(.int (0 : Int32)), (.int (0 : Int32))] 2 = mkF m 0 #[.val (.int (0 : Int32)), .val (.int (0 : Int32))] [] := by first | rfl | (simp [entryFrame, mkF, argsToLocals, Value.category]; done)
  rw [ef]
  refine g_iloadN W0 dQ12_0 (pc' := 1) rfl rfl ?_
  refine g_iloadN W0 dQ12_1 (pc' := 2) rfl rfl ?_
  refine g_icN W0 dQ12_2 (pc' := 5) (flt (by decide : ¬ ((0 : Int32) < (0 : Int32)))).1 rfl ?_
  refine g_iloadN W0 dQ12_5 (pc' := 6) rfl rfl ?_
  refine g_goto W0 dQ12_6 (pc' := 10) (by decide) (by decide) ?_
  exact g_iret W0 dQ12_10 rfl (Or.inl rfl) rfl ⟨rfl, rfl⟩
set_option maxRecDepth 65536 in
set_option maxHeartbeats 4000000 in
theorem con_min (l : Launch) (Z : State) (a0 : Array Value) (hw : ∀ d ∈ tables_1, d.before a0 Z = true) (hEL : EW Z a0 consts_1) (a b : Nat) (h0 : Heap) (ha : a < 2 ^ 30) (hab : b ≤ a) :
    Ocon l Z consts_1 (⟨"java/lang/Math", "min", "(II)I"⟩ : MethodName) jdk_29_method_69_code 2 (some .int) [] ({ frames := 0, cells := 0, slots := 0, locals := 0 } : Room) #[(.int (Int32.ofNat a)), (.int (Int32.ofNat b))] h0 [] [] (fun v h _ => v = some (.int (Int32.ofNat b)) ∧ h0 = h) := by
  refine own_con (a0 := a0) hEL (Jvm.Free.JP.mathPlain rfl (by decide)) ?_
  intro p e s m below meth c T hs W0
  have ef : entryFrame m #[(.int (Int32.ofNat a)), (.int (Int32.ofNat b))] 2 = mkF m 0 #[.val (.int (Int32.ofNat a)), .val (.int (Int32.ofNat b))] [] := by first | rfl | (simp [entryFrame, mkF, argsToLocals, Value.category]; done)
  rw [ef]
  refine g_iloadN W0 dQ13_0 (pc' := 1) rfl rfl ?_
  refine g_iloadN W0 dQ13_1 (pc' := 2) rfl rfl ?_
  by_cases c106 : (Int32.ofNat b) < (Int32.ofNat a)
  · skip
    refine g_icY W0 dQ13_2 (pc' := 9) (tlt c106).2.2.1 (by decide) (by decide) ?_
    refine g_iloadN W0 dQ13_9 (pc' := 10) rfl rfl ?_
    exact g_iret W0 dQ13_10 rfl (Or.inl rfl) rfl ⟨rfl, rfl⟩
  · skip
    refine g_icN W0 dQ13_2 (pc' := 5) (flt c106).2.2.1 rfl ?_
    refine g_iloadN W0 dQ13_5 (pc' := 6) rfl rfl ?_
    refine g_goto W0 dQ13_6 (pc' := 10) (by decide) (by decide) ?_
    exact g_iret W0 dQ13_10 rfl (Or.inl rfl) rfl ⟨congrArg (fun z => some (Value.int (Int32.ofNat z))) (own_eqn ha hab c106), rfl⟩
def OIdx (cs : List Int32) (r : Int32) : Prop := (r = -1 ∧ own_first own_p59 cs = cs.length) ∨ (r = Int32.ofNat (own_first own_p59 cs) ∧ own_first own_p59 cs < cs.length)
set_option maxRecDepth 65536 in
set_option maxHeartbeats 4000000 in
theorem con_ixc (l : Launch) (Z : State) (a0 : Array Value) (hw : ∀ d ∈ tables_1, d.before a0 Z = true) (hEL : EW Z a0 consts_1) (t : Addr) (kb : ClassId) (cs : List Int32) (h0 : Heap) (hcap : cs.length ≤ 4) (hb : ∀ c ∈ cs, ¬ c < 0 ∧ ¬ (255 : Int32) < c) (K : Arv Z h0 t kb .byte (Int32.ofNat cs.length) (cs.map fun c => Value.int (StrChars.lo8 c)) (.int 0)) :
    Ocon l Z consts_1 (⟨"java/lang/StringLatin1", "indexOfChar", "([BIII)I"⟩ : MethodName) jdk_43_method_23_code 6 (some .int) [] ({ frames := 0, cells := 0, slots := 0, locals := 0 } : Room) #[(.ref t), (.int (59 : Int32)), (.int (0 : Int32)), (.int (Int32.ofNat cs.length))] h0 [] [] (fun v h _ => ∃ r, v = some (.int r) ∧ h0 = h ∧ OIdx cs r) := by
  refine own_con (a0 := a0) hEL (plainFor_of_name pn_java_lang_StringLatin1) ?_
  intro p e s m below meth c T hs W0
  have hcl : (Int32.ofNat cs.length).toNatClampNeg = cs.length := own_clamp (by omega)
  have loop : ∀ (kk i : Nat) (T : State), i + kk = cs.length → (∀ i', i' < i → own_p59 (cs.getD i' 0) = false) → Owk p l e ({ frames := 0, cells := 0, slots := 0, locals := 0 } : Room) s m #[(.ref t), (.int (59 : Int32)), (.int (0 : Int32)), (.int (Int32.ofNat cs.length))] below meth c Z a0 consts_1 [] "java/lang/StringLatin1" "indexOfChar" jdk_43_method_23_code 6 (some .int) T h0 [] 0 0 → Ogo p l e ({ frames := 0, cells := 0, slots := 0, locals := 0 } : Room) s m #[(.ref t), (.int (59 : Int32)), (.int (0 : Int32)), (.int (Int32.ofNat cs.length))] below meth c Z a0 consts_1 [] "java/lang/StringLatin1" "indexOfChar" jdk_43_method_23_code 6 (some .int) T (mkF m 7 #[.val (.ref t), .val (.int (59 : Int32)), .val (.int (0 : Int32)), .val (.int (Int32.ofNat cs.length)), .val (.int (59 : Int32)), .val (.int (Int32.ofNat i))] []) (fun v h _ => ∃ r, v = some (.int r) ∧ h0 = h ∧ OIdx cs r) := by
    intro kk
    induction kk with
    | zero =>
      intro i T hi hq W0
      have hi : i = cs.length := by omega
      subst hi
      refine g_iload W0 dQ14_7 (pc' := 9) rfl rfl ?_
      refine g_iloadN W0 dQ14_9 (pc' := 10) rfl rfl ?_
      refine g_icY W0 dQ14_10 (pc' := 31) (flt Int32.lt_irrefl).2.1 (by decide) (by decide) ?_
      refine g_iconst W0 dQ14_31 (pc' := 32) rfl (v := (-1)) rfl ?_
      exact g_iret W0 dQ14_32 rfl (Or.inl rfl) rfl ⟨_, rfl, rfl, Or.inl ⟨rfl, (own_first_is own_p59 cs cs.length (Nat.le_refl _) hq (fun z => absurd z (Nat.lt_irrefl _))).symm⟩⟩
    | succ kk ih =>
      intro i T hi hq W0
      have hin : i < cs.length := by omega
      have hlt := own_lt (by omega) hin
      refine g_iload W0 dQ14_7 (pc' := 9) rfl rfl ?_
      refine g_iloadN W0 dQ14_9 (pc' := 10) rfl rfl ?_
      refine g_icN W0 dQ14_10 (pc' := 13) (tlt hlt).2.1 rfl ?_
      refine g_aloadN W0 dQ14_13 (pc' := 14) rfl rfl rfl ?_
      refine g_iload W0 dQ14_14 (pc' := 16) rfl rfl ?_
      refine g_baload W0 dQ14_16 (pc' := 17) rfl K (i := i) rfl (by rw [hcl]; exact hin) (v := (.int (StrChars.lo8 (cs.getD i 0)))) (StrChars.Road.low_at _ cs i hin) ?_
      refine g_iload W0 dQ14_17 (pc' := 19) rfl rfl ?_
      by_cases c107 : (StrChars.lo8 (cs.getD i 0)) = (59 : Int32)
      · skip
        refine g_icN W0 dQ14_19 (pc' := 22) (teq c107).2 rfl ?_
        refine g_iload W0 dQ14_22 (pc' := 24) rfl rfl ?_
        exact g_iret W0 dQ14_24 rfl (Or.inl rfl) rfl (by have e := own_first_is own_p59 cs i (Nat.le_of_lt hin) hq (fun _ => decide_eq_true (own_loinj (hb _ (own_mem hin)) ⟨by decide, by decide⟩ (c107.trans (by decide)))); exact ⟨_, rfl, rfl, Or.inr ⟨congrArg Int32.ofNat e, e ▸ hin⟩⟩)
      · skip
        refine g_icY W0 dQ14_19 (pc' := 25) (feq c107).2 (by decide) (by decide) ?_
        refine g_iinc W0 dQ14_25 (pc' := 28) (v := (Int32.ofNat (i + 1))) (ls' := #[.val (.ref t), .val (.int (59 : Int32)), .val (.int (0 : Int32)), .val (.int (Int32.ofNat cs.length)), .val (.int (59 : Int32)), .val (.int (Int32.ofNat (i + 1)))]) rfl rfl (own_succ i) rfl ?_
        refine g_goto W0 dQ14_28 (pc' := 7) (by decide) (by decide) ?_
        refine ih (i + 1) T (by omega) (fun i' hi' => ?_) W0
        by_cases q : i' = i
        · subst q; exact decide_eq_false (fun z => c107 (by rw [z]; decide))
        · exact hq i' (by omega)
  have ef : entryFrame m #[(.ref t), (.int (59 : Int32)), (.int (0 : Int32)), (.int (Int32.ofNat cs.length))] 6 = mkF m 0 #[.val (.ref t), .val (.int (59 : Int32)), .val (.int (0 : Int32)), .val (.int (Int32.ofNat cs.length)), .unset, .unset] [] := by first | rfl | (simp [entryFrame, mkF, argsToLocals, Value.category]; done)
  rw [ef]
  refine g_iloadN W0 dQ14_0 (pc' := 1) rfl rfl ?_
  refine g_i2b W0 dQ14_1 (pc' := 2) rfl ?_
  rw [show (59 : Int32).toInt8.toInt32 = 59 from by decide]
  refine g_istore W0 dQ14_2 (pc' := 4) rfl (ls' := #[.val (.ref t), .val (.int (59 : Int32)), .val (.int (0 : Int32)), .val (.int (Int32.ofNat cs.length)), .val (.int (59 : Int32)), .unset]) rfl ?_
  refine g_iloadN W0 dQ14_4 (pc' := 5) rfl rfl ?_
  refine g_istore W0 dQ14_5 (pc' := 7) rfl (ls' := #[.val (.ref t), .val (.int (59 : Int32)), .val (.int (0 : Int32)), .val (.int (Int32.ofNat cs.length)), .val (.int (59 : Int32)), .val (.int (0 : Int32))]) rfl ?_
  exact loop cs.length 0 T (by omega) (fun i' hi' => absurd hi' (Nat.not_lt_zero _)) W0
set_option maxRecDepth 65536 in
set_option maxHeartbeats 4000000 in
theorem con_lix (l : Launch) (Z : State) (a0 : Array Value) (hw : ∀ d ∈ tables_1, d.before a0 Z = true) (hEL : EW Z a0 consts_1) (t : Addr) (kb : ClassId) (cs : List Int32) (h0 : Heap) (hcap : cs.length ≤ 4) (hb : ∀ c ∈ cs, ¬ c < 0 ∧ ¬ (255 : Int32) < c) (K : Arv Z h0 t kb .byte (Int32.ofNat cs.length) (cs.map fun c => Value.int (StrChars.lo8 c)) (.int 0)) :
    Ocon l Z consts_1 (⟨"java/lang/StringLatin1", "indexOf", "([BIII)I"⟩ : MethodName) jdk_43_method_22_code 4 (some .int) [] ({ frames := 1, cells := 0, slots := 0, locals := 19 } : Room) #[(.ref t), (.int (59 : Int32)), (.int (0 : Int32)), (.int (Int32.ofNat cs.length))] h0 [] [] (fun v h _ => ∃ r, v = some (.int r) ∧ h0 = h ∧ OIdx cs r) := by
  refine own_con (a0 := a0) hEL (plainFor_of_name pn_java_lang_StringLatin1) ?_
  intro p e s m below meth c T hs W0
  have ef : entryFrame m #[(.ref t), (.int (59 : Int32)), (.int (0 : Int32)), (.int (Int32.ofNat cs.length))] 4 = mkF m 0 #[.val (.ref t), .val (.int (59 : Int32)), .val (.int (0 : Int32)), .val (.int (Int32.ofNat cs.length))] [] := by first | rfl | (simp [entryFrame, mkF, argsToLocals, Value.category]; done)
  rw [ef]
  refine g_iloadN W0 dQ10_0 (pc' := 1) rfl rfl ?_
  refine g_static W0 dQ10_1 (pc' := 4) rfl (hw _ (List.mem_of_getElem? (i := 70) rfl)) (hw _ (List.mem_of_getElem? (i := 71) rfl)) (hw _ (List.mem_of_getElem? (i := 68) rfl)) (hw _ (List.mem_of_getElem? (i := 72) rfl)) (by decide) (con_cae l Z a0 hw hEL h0) pd__I_Z (argsL := [(.int (59 : Int32))]) (st := []) rfl rfl rfl rfl (by decide) (w := 0) (Nat.le_of_eq rfl) (by decide) (by decide) (by decide) (by simp) (fun q hq => nomatch hq) ?_
  intro v108 T109 h110 S113 q111 W114
  have W112 := W114.sf (SF' := []) (fun _ hx => List.mem_append_right _ hx)
  obtain ⟨rfl, rfl⟩ := q111
  refine g_ifY W112 dQ10_4 (pc' := 9) (feq (by decide : ¬ ((1 : Int32) = (0 : Int32)))).2 (by decide) (by decide) ?_
  refine g_iloadN W112 dQ10_9 (pc' := 10) rfl rfl ?_
  refine g_iconst W112 dQ10_10 (pc' := 11) rfl (v := 0) rfl ?_
  refine g_static W112 dQ10_11 (pc' := 14) rfl (hw _ (List.mem_of_getElem? (i := 73) rfl)) (hw _ (List.mem_of_getElem? (i := 74) rfl)) (hw _ (List.mem_of_getElem? (i := 75) rfl)) (hw _ (List.mem_of_getElem? (i := 76) rfl)) (by decide) (con_max l Z a0 hw hEL h0) pd__II_I (argsL := [(.int (0 : Int32)), (.int (0 : Int32))]) (st := []) rfl rfl rfl rfl (by decide) (w := 0) (Nat.le_of_eq rfl) (by decide) (by decide) (by decide) (by simp) (fun q hq => nomatch hq) ?_
  intro v115 T116 h117 S120 q118 W121
  have W119 := W121.sf (SF' := []) (fun _ hx => List.mem_append_right _ hx)
  obtain ⟨rfl, rfl⟩ := q118
  refine g_istoreN W119 dQ10_14 (pc' := 15) rfl (ls' := #[.val (.ref t), .val (.int (59 : Int32)), .val (.int (0 : Int32)), .val (.int (Int32.ofNat cs.length))]) rfl ?_
  refine g_iloadN W119 dQ10_15 (pc' := 16) rfl rfl ?_
  refine g_aloadN W119 dQ10_16 (pc' := 17) rfl rfl rfl ?_
  refine g_alen W119 dQ10_17 (pc' := 18) rfl K ?_
  refine g_static W119 dQ10_18 (pc' := 21) rfl (hw _ (List.mem_of_getElem? (i := 77) rfl)) (hw _ (List.mem_of_getElem? (i := 78) rfl)) (hw _ (List.mem_of_getElem? (i := 75) rfl)) (hw _ (List.mem_of_getElem? (i := 79) rfl)) (by decide) (con_min l Z a0 hw hEL cs.length cs.length h0 (by omega) (Nat.le_refl _)) pd__II_I (argsL := [(.int (Int32.ofNat cs.length)), (.int (Int32.ofNat cs.length))]) (st := []) rfl rfl rfl rfl (by decide) (w := 0) (Nat.le_of_eq rfl) (by decide) (by decide) (by decide) (by simp) (fun q hq => nomatch hq) ?_
  intro v122 T123 h124 S127 q125 W128
  have W126 := W128.sf (SF' := []) (fun _ hx => List.mem_append_right _ hx)
  obtain ⟨rfl, rfl⟩ := q125
  refine g_istoreN W126 dQ10_21 (pc' := 22) rfl (ls' := #[.val (.ref t), .val (.int (59 : Int32)), .val (.int (0 : Int32)), .val (.int (Int32.ofNat cs.length))]) rfl ?_
  refine g_iloadN W126 dQ10_22 (pc' := 23) rfl rfl ?_
  refine g_iloadN W126 dQ10_23 (pc' := 24) rfl rfl ?_
  by_cases c129 : (0 : Int32) < (Int32.ofNat cs.length)
  · skip
    refine g_icY W126 dQ10_24 (pc' := 29) (tlt c129).1 (by decide) (by decide) ?_
    refine g_aloadN W126 dQ10_29 (pc' := 30) rfl rfl rfl ?_
    refine g_iloadN W126 dQ10_30 (pc' := 31) rfl rfl ?_
    refine g_iloadN W126 dQ10_31 (pc' := 32) rfl rfl ?_
    refine g_iloadN W126 dQ10_32 (pc' := 33) rfl rfl ?_
    refine g_static W126 dQ10_33 (pc' := 36) rfl (hw _ (List.mem_of_getElem? (i := 80) rfl)) (hw _ (List.mem_of_getElem? (i := 81) rfl)) (hw _ (List.mem_of_getElem? (i := 68) rfl)) (hw _ (List.mem_of_getElem? (i := 82) rfl)) (by decide) (con_ixc l Z a0 hw hEL t kb cs h0 hcap hb K) pd___BIII_I (argsL := [(.ref t), (.int (59 : Int32)), (.int (0 : Int32)), (.int (Int32.ofNat cs.length))]) (st := []) rfl rfl rfl rfl (by decide) (w := 0) (Nat.le_of_eq rfl) (by decide) (by decide) (by decide) (by simp) (fun q hq => nomatch hq) ?_
    intro v130 T131 h132 S135 q133 W136
    have W134 := W136.sf (SF' := []) (fun _ hx => List.mem_append_right _ hx)
    obtain ⟨r, rfl, rfl, hr⟩ := q133
    exact g_iret W134 dQ10_36 rfl (Or.inl rfl) rfl ⟨r, rfl, rfl, hr⟩
  · skip
    refine g_icN W126 dQ10_24 (pc' := 27) (flt c129).1 rfl ?_
    refine g_iconst W126 dQ10_27 (pc' := 28) rfl (v := (-1)) rfl ?_
    exact g_iret W126 dQ10_28 rfl (Or.inl rfl) rfl (by have e := own_zero (by omega) c129; have e2 : cs = [] := List.length_eq_zero_iff.mp e; subst e2; exact ⟨_, rfl, rfl, Or.inl ⟨rfl, rfl⟩⟩)
set_option maxRecDepth 65536 in
set_option maxHeartbeats 4000000 in
theorem con_ix2 (l : Launch) (Z : State) (a0 : Array Value) (hw : ∀ d ∈ tables_1, d.before a0 Z = true) (hEL : EW Z a0 consts_1) (x : Addr) (cs : List Int32) (zc : Int32) (SC : Sta Z Z.heap "java/lang/String" "COMPACT_STRINGS" "Z" (.int zc)) (hzc : ¬ zc = 0) (h0 : Heap) (O : Ext Z.heap h0) (S : OLat Z h0 x cs) (hcap : cs.length ≤ 4) :
    Ocon l Z consts_1 (⟨"java/lang/String", "indexOf", "(II)I"⟩ : MethodName) jdk_42_method_80_code 3 (some .int) [] ({ frames := 2, cells := 0, slots := 0, locals := 40 } : Room) #[(.ref x), (.int (59 : Int32)), (.int (0 : Int32))] h0 [] [] (fun v h _ => ∃ r, v = some (.int r) ∧ h0 = h ∧ OIdx cs r) := by
  refine own_con (a0 := a0) hEL (plainFor_of_name pn_java_lang_String) ?_
  intro p e s m below meth c T hs W0
  have ef : entryFrame m #[(.ref x), (.int (59 : Int32)), (.int (0 : Int32))] 3 = mkF m 0 #[.val (.ref x), .val (.int (59 : Int32)), .val (.int (0 : Int32))] [] := by first | rfl | (simp [entryFrame, mkF, argsToLocals, Value.category]; done)
  rw [ef]
  obtain ⟨sE, sB, t, kb, sV, sC, sA⟩ := id S
  refine g_aloadN W0 dQ8_0 (pc' := 1) rfl rfl rfl ?_
  refine g_virtual W0 dQ8_1 (pc' := 4) (C := "java/lang/String") rfl (hw _ (List.mem_of_getElem? (i := 51) rfl)) (hw _ (List.mem_of_getElem? (i := 52) rfl)) (hw _ (List.mem_of_getElem? (i := 54) rfl)) (hw _ (List.mem_of_getElem? (i := 54) rfl)) (hw _ (List.mem_of_getElem? (i := 53) rfl)) (hw _ (List.mem_of_getElem? (i := 7) rfl)) (hw _ (List.mem_of_getElem? (i := 55) rfl)) (by decide) sE (con_isl l Z a0 hw hEL x zc SC hzc h0 O sC) pd___Z (argsL := []) (st := []) rfl rfl rfl rfl (by decide) (w := 0) (Nat.le_of_eq rfl) (by decide) (by decide) (by decide) (by simp) (fun q hq => nomatch hq) ?_
  intro v137 T138 h139 S142 q140 W143
  have W141 := W143.sf (SF' := []) (fun _ hx => List.mem_append_right _ hx)
  obtain ⟨rfl, rfl⟩ := q140
  refine g_ifN W141 dQ8_4 (pc' := 7) (feq (by decide : ¬ ((1 : Int32) = (0 : Int32)))).1 rfl ?_
  refine g_aloadN W141 dQ8_7 (pc' := 8) rfl rfl rfl ?_
  refine g_getF W141 dQ8_8 (pc' := 11) rfl (hw _ (List.mem_of_getElem? (i := 32) rfl)) sV ?_
  intro T145 W144
  refine g_iloadN W144 dQ8_11 (pc' := 12) rfl rfl ?_
  refine g_iloadN W144 dQ8_12 (pc' := 13) rfl rfl ?_
  refine g_aloadN W144 dQ8_13 (pc' := 14) rfl rfl rfl ?_
  refine g_virtual W144 dQ8_14 (pc' := 17) (C := "java/lang/String") rfl (hw _ (List.mem_of_getElem? (i := 56) rfl)) (hw _ (List.mem_of_getElem? (i := 57) rfl)) (hw _ (List.mem_of_getElem? (i := 59) rfl)) (hw _ (List.mem_of_getElem? (i := 59) rfl)) (hw _ (List.mem_of_getElem? (i := 58) rfl)) (hw _ (List.mem_of_getElem? (i := 7) rfl)) (hw _ (List.mem_of_getElem? (i := 60) rfl)) (by decide) (S).1 (con_len l Z a0 hw hEL x cs zc SC hzc h0 O S) pd___I (argsL := []) (st := [(.int (0 : Int32)), (.int (59 : Int32)), (.ref t)]) rfl rfl rfl rfl (by decide) (w := 3) (Nat.le_of_eq rfl) (by decide) (by decide) (by decide) (by simp) (fun q hq => nomatch hq) ?_
  intro v146 T147 h148 S151 q149 W152
  have W150 := W152.sf (SF' := []) (fun _ hx => List.mem_append_right _ hx)
  obtain ⟨rfl, rfl⟩ := q149
  refine g_static W150 dQ8_17 (pc' := 20) rfl (hw _ (List.mem_of_getElem? (i := 66) rfl)) (hw _ (List.mem_of_getElem? (i := 67) rfl)) (hw _ (List.mem_of_getElem? (i := 68) rfl)) (hw _ (List.mem_of_getElem? (i := 69) rfl)) (by decide) (con_lix l Z a0 hw hEL t kb cs h0 hcap sB sA) pd___BIII_I (argsL := [(.ref t), (.int (59 : Int32)), (.int (0 : Int32)), (.int (Int32.ofNat cs.length))]) (st := []) rfl rfl rfl rfl (by decide) (w := 0) (Nat.le_of_eq rfl) (by decide) (by decide) (by decide) (by simp) (fun q hq => nomatch hq) ?_
  intro v153 T154 h155 S158 q156 W159
  have W157 := W159.sf (SF' := []) (fun _ hx => List.mem_append_right _ hx)
  obtain ⟨r, rfl, rfl, hr⟩ := q156
  refine g_goto W157 dQ8_20 (pc' := 36) (by decide) (by decide) ?_
  exact g_iret W157 dQ8_36 rfl (Or.inl rfl) rfl ⟨r, rfl, rfl, hr⟩
set_option maxRecDepth 65536 in
set_option maxHeartbeats 4000000 in
theorem con_ix1 (l : Launch) (Z : State) (a0 : Array Value) (hw : ∀ d ∈ tables_1, d.before a0 Z = true) (hEL : EW Z a0 consts_1) (x : Addr) (cs : List Int32) (zc : Int32) (SC : Sta Z Z.heap "java/lang/String" "COMPACT_STRINGS" "Z" (.int zc)) (hzc : ¬ zc = 0) (h0 : Heap) (O : Ext Z.heap h0) (S : OLat Z h0 x cs) (hcap : cs.length ≤ 4) :
    Ocon l Z consts_1 (⟨"java/lang/String", "indexOf", "(I)I"⟩ : MethodName) jdk_42_method_79_code 2 (some .int) [] ({ frames := 3, cells := 0, slots := 0, locals := 54 } : Room) #[(.ref x), (.int (59 : Int32))] h0 [] [] (fun v h _ => ∃ r, v = some (.int r) ∧ h0 = h ∧ OIdx cs r) := by
  refine own_con (a0 := a0) hEL (plainFor_of_name pn_java_lang_String) ?_
  intro p e s m below meth c T hs W0
  have ef : entryFrame m #[(.ref x), (.int (59 : Int32))] 2 = mkF m 0 #[.val (.ref x), .val (.int (59 : Int32))] [] := by first | rfl | (simp [entryFrame, mkF, argsToLocals, Value.category]; done)
  rw [ef]
  obtain ⟨sE, sB, t, kb, sV, sC, sA⟩ := id S
  refine g_aloadN W0 dQ7_0 (pc' := 1) rfl rfl rfl ?_
  refine g_iloadN W0 dQ7_1 (pc' := 2) rfl rfl ?_
  refine g_iconst W0 dQ7_2 (pc' := 3) rfl (v := 0) rfl ?_
  refine g_virtual W0 dQ7_3 (pc' := 6) (C := "java/lang/String") rfl (hw _ (List.mem_of_getElem? (i := 46) rfl)) (hw _ (List.mem_of_getElem? (i := 47) rfl)) (hw _ (List.mem_of_getElem? (i := 49) rfl)) (hw _ (List.mem_of_getElem? (i := 49) rfl)) (hw _ (List.mem_of_getElem? (i := 48) rfl)) (hw _ (List.mem_of_getElem? (i := 7) rfl)) (hw _ (List.mem_of_getElem? (i := 50) rfl)) (by decide) sE (con_ix2 l Z a0 hw hEL x cs zc SC hzc h0 O S hcap) pd__II_I (argsL := [(.int (59 : Int32)), (.int (0 : Int32))]) (st := []) rfl rfl rfl rfl (by decide) (w := 0) (Nat.le_of_eq rfl) (by decide) (by decide) (by decide) (by simp) (fun q hq => nomatch hq) ?_
  intro v160 T161 h162 S165 q163 W166
  have W164 := W166.sf (SF' := []) (fun _ hx => List.mem_append_right _ hx)
  obtain ⟨r, rfl, rfl, hr⟩ := q163
  exact g_iret W164 dQ7_6 rfl (Or.inl rfl) rfl ⟨r, rfl, rfl, hr⟩
theorem pn_jdk_internal_util_Preconditions : plainName "jdk/internal/util/Preconditions" = true := by first | (simp [plainName, overriddenIn]; done) | decide +kernel
set_option maxRecDepth 65536 in
set_option maxHeartbeats 4000000 in
theorem con_cft (l : Launch) (Z : State) (a0 : Array Value) (hw : ∀ d ∈ tables_1, d.before a0 Z = true) (hEL : EW Z a0 consts_1) (k n : Nat) (fm : Value) (hfm : fm.isRef = true) (h0 : Heap) (hk : k ≤ n) (hn : n < 2 ^ 30) :
    Ocon l Z consts_1 (⟨"jdk/internal/util/Preconditions", "checkFromToIndex", "(IIILjava/util/function/BiFunction;)I"⟩ : MethodName) jdk_41_method_12_code 4 (some .int) [] ({ frames := 0, cells := 0, slots := 0, locals := 0 } : Room) #[(.int (0 : Int32)), (.int (Int32.ofNat k)), (.int (Int32.ofNat n)), fm] h0 [] [] (fun v h _ => v = some (.int 0) ∧ h0 = h) := by
  refine own_con (a0 := a0) hEL (plainFor_of_name pn_jdk_internal_util_Preconditions) ?_
  intro p e s m below meth c T hs W0
  rcases ref_cases hfm with rfl | ⟨fa, rfl⟩
  · skip
    have ef : entryFrame m #[(.int (0 : Int32)), (.int (Int32.ofNat k)), (.int (Int32.ofNat n)), .null] 4 = mkF m 0 #[.val (.int (0 : Int32)), .val (.int (Int32.ofNat k)), .val (.int (Int32.ofNat n)), .val .null] [] := by first | rfl | (simp [entryFrame, mkF, argsToLocals, Value.category]; done)
    rw [ef]
    refine g_iloadN W0 dQ28_0 (pc' := 1) rfl rfl ?_
    refine g_ifN W0 dQ28_1 (pc' := 4) (flt (by decide : ¬ ((0 : Int32) < (0 : Int32)))).1 rfl ?_
    refine g_iloadN W0 dQ28_4 (pc' := 5) rfl rfl ?_
    refine g_iloadN W0 dQ28_5 (pc' := 6) rfl rfl ?_
    refine g_icN W0 dQ28_6 (pc' := 9) (flt (own_nn (by omega))).2.2.1 rfl ?_
    refine g_iloadN W0 dQ28_9 (pc' := 10) rfl rfl ?_
    refine g_iloadN W0 dQ28_10 (pc' := 11) rfl rfl ?_
    refine g_icY W0 dQ28_11 (pc' := 22) (flt (own_nlt (by omega) hk)).2.2.2 (by decide) (by decide) ?_
    refine g_iloadN W0 dQ28_22 (pc' := 23) rfl rfl ?_
    exact g_iret W0 dQ28_23 rfl (Or.inl rfl) rfl ⟨rfl, rfl⟩
  · skip
    have ef : entryFrame m #[(.int (0 : Int32)), (.int (Int32.ofNat k)), (.int (Int32.ofNat n)), (.ref fa)] 4 = mkF m 0 #[.val (.int (0 : Int32)), .val (.int (Int32.ofNat k)), .val (.int (Int32.ofNat n)), .val (.ref fa)] [] := by first | rfl | (simp [entryFrame, mkF, argsToLocals, Value.category]; done)
    rw [ef]
    refine g_iloadN W0 dQ28_0 (pc' := 1) rfl rfl ?_
    refine g_ifN W0 dQ28_1 (pc' := 4) (flt (by decide : ¬ ((0 : Int32) < (0 : Int32)))).1 rfl ?_
    refine g_iloadN W0 dQ28_4 (pc' := 5) rfl rfl ?_
    refine g_iloadN W0 dQ28_5 (pc' := 6) rfl rfl ?_
    refine g_icN W0 dQ28_6 (pc' := 9) (flt (own_nn (by omega))).2.2.1 rfl ?_
    refine g_iloadN W0 dQ28_9 (pc' := 10) rfl rfl ?_
    refine g_iloadN W0 dQ28_10 (pc' := 11) rfl rfl ?_
    refine g_icY W0 dQ28_11 (pc' := 22) (flt (own_nlt (by omega) hk)).2.2.2 (by decide) (by decide) ?_
    refine g_iloadN W0 dQ28_22 (pc' := 23) rfl rfl ?_
    exact g_iret W0 dQ28_23 rfl (Or.inl rfl) rfl ⟨rfl, rfl⟩
set_option maxRecDepth 65536 in
set_option maxHeartbeats 4000000 in
theorem con_cbe (l : Launch) (Z : State) (a0 : Array Value) (hw : ∀ d ∈ tables_1, d.before a0 Z = true) (hEL : EW Z a0 consts_1) (k n : Nat) (fm : Value) (hfm : fm.isRef = true) (SF1 : Sta Z Z.heap "jdk/internal/util/Preconditions" "SIOOBE_FORMATTER" "Ljava/util/function/BiFunction;" fm) (h0 : Heap) (O : Ext Z.heap h0) (hk : k ≤ n) (hn : n < 2 ^ 30) :
    Ocon l Z consts_1 (⟨"java/lang/String", "checkBoundsBeginEnd", "(III)V"⟩ : MethodName) jdk_42_method_158_code 3 none [] ({ frames := 1, cells := 0, slots := 0, locals := 15 } : Room) #[(.int (0 : Int32)), (.int (Int32.ofNat k)), (.int (Int32.ofNat n))] h0 [] [] (fun v h _ => v = none ∧ h0 = h) := by
  refine own_con (a0 := a0) hEL (plainFor_of_name pn_java_lang_String) ?_
  intro p e s m below meth c T hs W0
  have ef : entryFrame m #[(.int (0 : Int32)), (.int (Int32.ofNat k)), (.int (Int32.ofNat n))] 3 = mkF m 0 #[.val (.int (0 : Int32)), .val (.int (Int32.ofNat k)), .val (.int (Int32.ofNat n))] [] := by first | rfl | (simp [entryFrame, mkF, argsToLocals, Value.category]; done)
  rw [ef]
  refine g_iloadN W0 dQ27_0 (pc' := 1) rfl rfl ?_
  refine g_iloadN W0 dQ27_1 (pc' := 2) rfl rfl ?_
  refine g_iloadN W0 dQ27_2 (pc' := 3) rfl rfl ?_
  refine g_getS W0 dQ27_3 (pc' := 6) rfl (hw _ (List.mem_of_getElem? (i := 154) rfl)) (SF1.ext O) ?_
  intro T168 W167
  refine g_static W167 dQ27_6 (pc' := 9) rfl (hw _ (List.mem_of_getElem? (i := 156) rfl)) (hw _ (List.mem_of_getElem? (i := 157) rfl)) (hw _ (List.mem_of_getElem? (i := 155) rfl)) (hw _ (List.mem_of_getElem? (i := 158) rfl)) (by decide) (con_cft l Z a0 hw hEL k n fm hfm h0 hk hn) pd__IIILjava_util_function_BiFunction__I (argsL := [(.int (0 : Int32)), (.int (Int32.ofNat k)), (.int (Int32.ofNat n)), fm]) (st := []) rfl rfl rfl rfl (by decide) (w := 0) (Nat.le_of_eq rfl) (by decide) (by decide) (by decide) (by simp) (fun q hq => nomatch hq) ?_
  intro v169 T170 h171 S174 q172 W175
  have W173 := W175.sf (SF' := []) (fun _ hx => List.mem_append_right _ hx)
  obtain ⟨rfl, rfl⟩ := q172
  refine g_pop W173 dQ27_9 (pc' := 10) rfl rfl ?_
  exact g_return W173 dQ27_10 rfl ⟨rfl, rfl⟩
theorem pn_java_util_Arrays : plainName "java/util/Arrays" = true := by first | (simp [plainName, overriddenIn]; done) | decide +kernel
set_option maxRecDepth 65536 in
set_option maxHeartbeats 4000000 in
theorem con_chl (l : Launch) (Z : State) (a0 : Array Value) (hw : ∀ d ∈ tables_1, d.before a0 Z = true) (hEL : EW Z a0 consts_1) (st en : Nat) (h0 : Heap) (h1 : st ≤ en) (h2 : en < 2 ^ 30) :
    Ocon l Z consts_1 (⟨"java/util/Arrays", "checkLength", "(II)V"⟩ : MethodName) jdk_65_method_131_code 2 none [] ({ frames := 0, cells := 0, slots := 0, locals := 0 } : Room) #[(.int (Int32.ofNat st)), (.int (Int32.ofNat en))] h0 [] [] (fun v h _ => v = none ∧ h0 = h) := by
  refine own_con (a0 := a0) hEL (plainFor_of_name pn_java_util_Arrays) ?_
  intro p e s m below meth c T hs W0
  have ef : entryFrame m #[(.int (Int32.ofNat st)), (.int (Int32.ofNat en))] 2 = mkF m 0 #[.val (.int (Int32.ofNat st)), .val (.int (Int32.ofNat en))] [] := by first | rfl | (simp [entryFrame, mkF, argsToLocals, Value.category]; done)
  rw [ef]
  refine g_iloadN W0 dQ24_0 (pc' := 1) rfl rfl ?_
  refine g_iloadN W0 dQ24_1 (pc' := 2) rfl rfl ?_
  refine g_icY W0 dQ24_2 (pc' := 37) (flt (own_nlt h2 h1)).2.1 (by decide) (by decide) ?_
  exact g_return W0 dQ24_37 rfl ⟨rfl, rfl⟩
set_option maxRecDepth 65536 in
set_option maxHeartbeats 4000000 in
theorem con_cpb (l : Launch) (Z : State) (a0 : Array Value) (hw : ∀ d ∈ tables_1, d.before a0 Z = true) (hEL : EW Z a0 consts_1) (t : Addr) (kb : ClassId) (cs : List Int32) (st len : Nat) (hr : st + len ≤ cs.length) (h0 : Heap) (hcap : cs.length ≤ 4) (hb : ∀ c ∈ cs, ¬ c < 0 ∧ ¬ (255 : Int32) < c) (K : Arv Z h0 t kb .byte (Int32.ofNat cs.length) (cs.map fun c => Value.int (StrChars.lo8 c)) (.int 0)) :
    Ocon l Z consts_1 (⟨"java/util/Arrays", "copyOfRangeByte", "([BII)[B"⟩ : MethodName) jdk_65_method_133_code 5 (some (.array .byte)) [] ({ frames := 1, cells := 1, slots := 4, locals := 24 } : Room) #[(.ref t), (.int (Int32.ofNat st)), (.int (Int32.ofNat (st + len)))] h0 [] [] (fun v h _ => ∃ (t' : Addr) (kb' : ClassId), v = some (.ref t') ∧ Ext h0 h ∧ h0.size ≤ t' ∧ Arv Z h t' kb' .byte (Int32.ofNat len) (((cs.drop st).take len).map fun c => Value.int (StrChars.lo8 c)) (.int 0)) := by
  refine own_con (a0 := a0) hEL (plainFor_of_name pn_java_util_Arrays) ?_
  intro p e s m below meth c T hs W0
  have ef : entryFrame m #[(.ref t), (.int (Int32.ofNat st)), (.int (Int32.ofNat (st + len)))] 5 = mkF m 0 #[.val (.ref t), .val (.int (Int32.ofNat st)), .val (.int (Int32.ofNat (st + len))), .unset, .unset] [] := by first | rfl | (simp [entryFrame, mkF, argsToLocals, Value.category]; done)
  rw [ef]
  refine g_iloadN W0 dQ23_0 (pc' := 1) rfl rfl ?_
  refine g_iloadN W0 dQ23_1 (pc' := 2) rfl rfl ?_
  refine g_static W0 dQ23_2 (pc' := 5) rfl (hw _ (List.mem_of_getElem? (i := 135) rfl)) (hw _ (List.mem_of_getElem? (i := 136) rfl)) (hw _ (List.mem_of_getElem? (i := 130) rfl)) (hw _ (List.mem_of_getElem? (i := 137) rfl)) (by decide) (con_chl l Z a0 hw hEL st (st + len) h0 (Nat.le_add_right _ _) (by omega)) pd__II_V (argsL := [(.int (Int32.ofNat st)), (.int (Int32.ofNat (st + len)))]) (st := []) rfl rfl rfl rfl (by decide) (w := 0) (Nat.le_of_eq rfl) (by decide) (by decide) (by decide) (by simp) (fun q hq => nomatch hq) ?_
  intro v176 T177 h178 S181 q179 W182
  have W180 := W182.sf (SF' := []) (fun _ hx => List.mem_append_right _ hx)
  obtain ⟨rfl, rfl⟩ := q179
  refine g_iloadN W180 dQ23_5 (pc' := 6) rfl rfl ?_
  refine g_iloadN W180 dQ23_6 (pc' := 7) rfl rfl ?_
  refine g_isub W180 dQ23_7 (pc' := 8) rfl ?_
  rw [own_subn (by omega) (Nat.le_add_right st len), Nat.add_sub_cancel_left]
  refine g_istoreN W180 dQ23_8 (pc' := 9) rfl (ls' := #[.val (.ref t), .val (.int (Int32.ofNat st)), .val (.int (Int32.ofNat (st + len))), .val (.int (Int32.ofNat len)), .unset]) rfl ?_
  refine g_iloadN W180 dQ23_9 (pc' := 10) rfl rfl ?_
  refine g_newP W180 dQ23_10 (pc' := 12) (cap := 4) rfl (ty := .byte) (dv := (.int 0)) rfl rfl (hw _ (List.mem_of_getElem? (i := 23) rfl)) (own_nn (by omega)) (by rw [own_clamp (by omega)]; omega) (by decide) (by decide) (by decide) ?_
  intro T183 h184 cA185 E186 A187 W188
  obtain ⟨a189, g190⟩ : ∃ z, z = h0.size := ⟨_, rfl⟩
  rw [← g190] at A187 W188 ⊢
  have nb : s.heap.size ≤ a189 := by rw [g190, hs]; exact Nat.le_refl _
  refine g_astore W188 dQ23_12 (pc' := 14) rfl (ls' := #[.val (.ref t), .val (.int (Int32.ofNat st)), .val (.int (Int32.ofNat (st + len))), .val (.int (Int32.ofNat len)), .val (.ref a189)]) rfl rfl ?_
  refine g_aloadN W188 dQ23_14 (pc' := 15) rfl rfl rfl ?_
  refine g_iloadN W188 dQ23_15 (pc' := 16) rfl rfl ?_
  refine g_aload W188 dQ23_16 (pc' := 18) rfl rfl rfl ?_
  refine g_iconst W188 dQ23_18 (pc' := 19) rfl (v := 0) rfl ?_
  refine g_aloadN W188 dQ23_19 (pc' := 20) rfl rfl rfl ?_
  refine g_alen W188 dQ23_20 (pc' := 21) rfl (K.ext E186) ?_
  refine g_iloadN W188 dQ23_21 (pc' := 22) rfl rfl ?_
  refine g_isub W188 dQ23_22 (pc' := 23) rfl ?_
  rw [own_subn (by omega) (show st ≤ cs.length by omega)]
  refine g_iloadN W188 dQ23_23 (pc' := 24) rfl rfl ?_
  refine g_static W188 dQ23_24 (pc' := 27) rfl (hw _ (List.mem_of_getElem? (i := 138) rfl)) (hw _ (List.mem_of_getElem? (i := 78) rfl)) (hw _ (List.mem_of_getElem? (i := 75) rfl)) (hw _ (List.mem_of_getElem? (i := 79) rfl)) (by decide) (con_min l Z a0 hw hEL (cs.length - st) len h184 (by omega) (by omega)) pd__II_I (argsL := [(.int (Int32.ofNat (cs.length - st))), (.int (Int32.ofNat len))]) (st := [(.int (0 : Int32)), (.ref a189), (.int (Int32.ofNat st)), (.ref t)]) rfl rfl rfl rfl (by decide) (w := 4) (Nat.le_of_eq rfl) (by decide) (by decide) (by decide) (by simp) (fun q hq => nomatch hq) ?_
  intro v191 T192 h193 S196 q194 W197
  have W195 := W197.sf (SF' := [a189]) (fun _ hx => List.mem_append_right _ hx)
  obtain ⟨rfl, rfl⟩ := q194
  refine g_cpA W195 dQ23_27 (pc' := 30) rfl (hw _ (List.mem_of_getElem? (i := 139) rfl)) (hw _ (List.mem_of_getElem? (i := 142) rfl)) (hw _ (List.mem_of_getElem? (i := 140) rfl)) (hw _ (List.mem_of_getElem? (i := 141) rfl)) (K.ext E186) (own_pad0 len A187) (by omega) hr (by simp) (by simp) nb (fun _ q => nomatch q) rfl (by decide) (w := 0) (Nat.le_of_eq rfl) (by decide) ?_
  intro T198 h199 k200 A201 W202
  rw [own_cp cs st len hr] at A201
  have X := own_ext_keep E186 k200 (by intro y hy; rw [List.mem_singleton.mp hy, g190]; exact Nat.le_refl _)
  refine g_aload W202 dQ23_30 (pc' := 32) rfl rfl rfl ?_
  exact g_aret W202 dQ23_32 rfl rfl rfl rfl ⟨a189, _, rfl, X, (by first | exact Nat.le_refl _ | exact Nat.le_of_eq g190.symm), A201⟩
set_option maxRecDepth 65536 in
set_option maxHeartbeats 4000000 in
theorem con_cpr (l : Launch) (Z : State) (a0 : Array Value) (hw : ∀ d ∈ tables_1, d.before a0 Z = true) (hEL : EW Z a0 consts_1) (t : Addr) (kb : ClassId) (cs : List Int32) (st len : Nat) (hr : st + len ≤ cs.length) (hne : ¬ (st = 0 ∧ len = cs.length)) (h0 : Heap) (hcap : cs.length ≤ 4) (hb : ∀ c ∈ cs, ¬ c < 0 ∧ ¬ (255 : Int32) < c) (K : Arv Z h0 t kb .byte (Int32.ofNat cs.length) (cs.map fun c => Value.int (StrChars.lo8 c)) (.int 0)) :
    Ocon l Z consts_1 (⟨"java/util/Arrays", "copyOfRange", "([BII)[B"⟩ : MethodName) jdk_65_method_132_code 3 (some (.array .byte)) [] ({ frames := 2, cells := 1, slots := 4, locals := 40 } : Room) #[(.ref t), (.int (Int32.ofNat st)), (.int (Int32.ofNat (st + len)))] h0 [] [] (fun v h _ => ∃ (t' : Addr) (kb' : ClassId), v = some (.ref t') ∧ Ext h0 h ∧ h0.size ≤ t' ∧ Arv Z h t' kb' .byte (Int32.ofNat len) (((cs.drop st).take len).map fun c => Value.int (StrChars.lo8 c)) (.int 0)) := by
  refine own_con (a0 := a0) hEL (plainFor_of_name pn_java_util_Arrays) ?_
  intro p e s m below meth c T hs W0
  have ef : entryFrame m #[(.ref t), (.int (Int32.ofNat st)), (.int (Int32.ofNat (st + len)))] 3 = mkF m 0 #[.val (.ref t), .val (.int (Int32.ofNat st)), .val (.int (Int32.ofNat (st + len)))] [] := by first | rfl | (simp [entryFrame, mkF, argsToLocals, Value.category]; done)
  rw [ef]
  refine g_iloadN W0 dQ22_0 (pc' := 1) rfl rfl ?_
  rcases Nat.eq_zero_or_pos st with hz | hz
  · skip
    have hzz : (Int32.ofNat st) = 0 := by rw [hz]; rfl
    refine g_ifN W0 dQ22_1 (pc' := 4) (teq hzz).2 rfl ?_
    refine g_iloadN W0 dQ22_4 (pc' := 5) rfl rfl ?_
    refine g_aloadN W0 dQ22_5 (pc' := 6) rfl rfl rfl ?_
    refine g_alen W0 dQ22_6 (pc' := 7) rfl K ?_
    refine g_icN W0 dQ22_7 (pc' := 10) (feq (fun z => hne ⟨hz, by have := own_inj (by omega) (by omega) z; omega⟩)).1 rfl ?_
    refine g_aloadN W0 dQ22_10 (pc' := 11) rfl rfl rfl ?_
    refine g_iloadN W0 dQ22_11 (pc' := 12) rfl rfl ?_
    refine g_iloadN W0 dQ22_12 (pc' := 13) rfl rfl ?_
    refine g_static W0 dQ22_13 (pc' := 16) rfl (hw _ (List.mem_of_getElem? (i := 132) rfl)) (hw _ (List.mem_of_getElem? (i := 133) rfl)) (hw _ (List.mem_of_getElem? (i := 130) rfl)) (hw _ (List.mem_of_getElem? (i := 134) rfl)) (by decide) (con_cpb l Z a0 hw hEL t kb cs st len hr h0 hcap hb K) pd___BII__B (argsL := [(.ref t), (.int (Int32.ofNat st)), (.int (Int32.ofNat (st + len)))]) (st := []) rfl rfl rfl rfl (by decide) (w := 0) (Nat.le_of_eq rfl) (by decide) (by decide) (by decide) (by simp) (fun q hq => nomatch hq) ?_
    intro v203 T204 h205 S208 q206 W209
    have W207 := W209.sf (SF' := []) (fun _ hx => List.mem_append_right _ hx)
    obtain ⟨t', kb', rfl, X, nt, A⟩ := q206
    exact g_aret W207 dQ22_16 rfl rfl rfl rfl ⟨t', kb', rfl, X, nt, A⟩
  · skip
    have hnz : ¬ (Int32.ofNat st) = 0 := Jvm.Free.XT.nz32 (by omega) hz
    refine g_ifY W0 dQ22_1 (pc' := 10) (feq hnz).2 (by decide) (by decide) ?_
    refine g_aloadN W0 dQ22_10 (pc' := 11) rfl rfl rfl ?_
    refine g_iloadN W0 dQ22_11 (pc' := 12) rfl rfl ?_
    refine g_iloadN W0 dQ22_12 (pc' := 13) rfl rfl ?_
    refine g_static W0 dQ22_13 (pc' := 16) rfl (hw _ (List.mem_of_getElem? (i := 132) rfl)) (hw _ (List.mem_of_getElem? (i := 133) rfl)) (hw _ (List.mem_of_getElem? (i := 130) rfl)) (hw _ (List.mem_of_getElem? (i := 134) rfl)) (by decide) (con_cpb l Z a0 hw hEL t kb cs st len hr h0 hcap hb K) pd___BII__B (argsL := [(.ref t), (.int (Int32.ofNat st)), (.int (Int32.ofNat (st + len)))]) (st := []) rfl rfl rfl rfl (by decide) (w := 0) (Nat.le_of_eq rfl) (by decide) (by decide) (by decide) (by simp) (fun q hq => nomatch hq) ?_
    intro v210 T211 h212 S215 q213 W216
    have W214 := W216.sf (SF' := []) (fun _ hx => List.mem_append_right _ hx)
    obtain ⟨t', kb', rfl, X, nt, A⟩ := q213
    exact g_aret W214 dQ22_16 rfl rfl rfl rfl ⟨t', kb', rfl, X, nt, A⟩
set_option maxRecDepth 65536 in
set_option maxHeartbeats 4000000 in
theorem con_nbb (l : Launch) (Z : State) (a0 : Array Value) (hw : ∀ d ∈ tables_1, d.before a0 Z = true) (hEL : EW Z a0 consts_1) (x t : Addr) (kb : ClassId) (cs : List Int32) (v0 c0 : Value) (h0 : Heap) (hb : ∀ c ∈ cs, ¬ c < 0 ∧ ¬ (255 : Int32) < c) (E : Exa Z h0 x "java/lang/String") (FV : Fld Z h0 x "java/lang/String" "value" "[B" v0) (FC : Fld Z h0 x "java/lang/String" "coder" "B" c0) (K : Arv Z h0 t kb .byte (Int32.ofNat cs.length) (cs.map fun c => Value.int (StrChars.lo8 c)) (.int 0)) :
    Ocon l Z consts_1 (⟨"java/lang/String", "<init>", "([BB)V"⟩ : MethodName) jdk_42_method_151_code 3 none [] ({ frames := 1, cells := 0, slots := 0, locals := 12 } : Room) #[(.ref x), (.ref t), (.int (0 : Int32))] h0 [x] [(⟨x, RoadKit.slotOf Z "java/lang/String" "coder" "B"⟩ : Loc), (⟨x, RoadKit.slotOf Z "java/lang/String" "value" "[B"⟩ : Loc)] (fun v h _ => v = none ∧ Keep h0 h [x] ∧ OLat Z h x cs) := by
  refine own_con (a0 := a0) hEL (plainFor_of_name pn_java_lang_String) ?_
  intro p e s m below meth c T hs W0
  have ef : entryFrame m #[(.ref x), (.ref t), (.int (0 : Int32))] 3 = mkF m 0 #[.val (.ref x), .val (.ref t), .val (.int (0 : Int32))] [] := by first | rfl | (simp [entryFrame, mkF, argsToLocals, Value.category]; done)
  rw [ef]
  have hsl : RoadKit.slotOf Z "java/lang/String" "value" "[B" ≠ RoadKit.slotOf Z "java/lang/String" "coder" "B" := slot_ne (t := .array .byte) (t' := .byte) (Or.inr (hw _ (List.mem_of_getElem? (i := 33) rfl))) (Or.inr (hw _ (List.mem_of_getElem? (i := 31) rfl))) (by decide) (by decide) (by decide)
  have hne1 : t ≠ x := by
    obtain ⟨cl, A1, -⟩ := id K
    exact Ne.symm (ne_arr E (hw _ (List.mem_of_getElem? (i := 6) rfl)) A1)
  refine g_aloadN W0 dQ25_0 (pc' := 1) rfl rfl rfl ?_
  refine g_initO W0 dQ25_1 (pc' := 4) rfl (hw _ (List.mem_of_getElem? (i := 15) rfl)) (hw _ (List.mem_of_getElem? (i := 16) rfl)) (hw _ (List.mem_of_getElem? (i := 17) rfl)) rfl (by decide) (w := 0) (Nat.le_refl _) (by decide) ?_
  intro T217 W218
  refine g_aloadN W218 dQ25_4 (pc' := 5) rfl rfl rfl ?_
  refine g_aloadN W218 dQ25_5 (pc' := 6) rfl rfl rfl ?_
  refine g_putF W218 dQ25_6 (pc' := 9) rfl (hw _ (List.mem_of_getElem? (i := 32) rfl)) FV E (Or.inr ⟨(hw _ (List.mem_of_getElem? (i := 33) rfl)), rfl, rfl⟩) (hw _ (List.mem_of_getElem? (i := 6) rfl)) (ty := .array .byte) (by decide) rfl rfl (by simp) (Or.inl (by simp)) ?_
  intro T219 h220 w221 W222
  refine g_aloadN W222 dQ25_9 (pc' := 10) rfl rfl rfl ?_
  refine g_iloadN W222 dQ25_10 (pc' := 11) rfl rfl ?_
  refine g_putF W222 dQ25_11 (pc' := 14) rfl (hw _ (List.mem_of_getElem? (i := 30) rfl)) (FC.other w221 (Or.inr (Ne.symm hsl))) (E.wr w221) (Or.inr ⟨(hw _ (List.mem_of_getElem? (i := 31) rfl)), rfl, rfl⟩) (hw _ (List.mem_of_getElem? (i := 6) rfl)) (ty := .byte) (by decide) rfl rfl (by simp) (Or.inl (by simp)) ?_
  intro T223 h224 w225 W226
  exact g_return W226 dQ25_14 rfl ⟨rfl, ((Keep.refl _ _).wr w221 (Or.inl (by simp))).wr w225 (Or.inl (by simp)), (E.wr w221).wr w225, hb, t, kb, (FV.same w221).other w225 (Or.inr hsl), (FC.other w221 (Or.inr (Ne.symm hsl))).same w225, (K.other w221 hne1).other w225 hne1⟩
set_option maxRecDepth 65536 in
set_option maxHeartbeats 4000000 in
theorem con_nst (l : Launch) (Z : State) (a0 : Array Value) (hw : ∀ d ∈ tables_1, d.before a0 Z = true) (hEL : EW Z a0 consts_1) (t : Addr) (kb : ClassId) (cs : List Int32) (st len : Nat) (hr : st + len ≤ cs.length) (hne : ¬ (st = 0 ∧ len = cs.length)) (h0 : Heap) (hcap : cs.length ≤ 4) (hb : ∀ c ∈ cs, ¬ c < 0 ∧ ¬ (255 : Int32) < c) (K : Arv Z h0 t kb .byte (Int32.ofNat cs.length) (cs.map fun c => Value.int (StrChars.lo8 c)) (.int 0)) :
    Ocon l Z consts_1 (⟨"java/lang/StringLatin1", "newString", "([BII)Ljava/lang/String;"⟩ : MethodName) jdk_43_method_47_code 3 (some (.object "java/lang/String")) [] ({ frames := 3, cells := 2, slots := 8, locals := 57 } : Room) #[(.ref t), (.int (Int32.ofNat st)), (.int (Int32.ofNat len))] h0 [] [] (fun v h _ => ∃ y, v = some (.ref y) ∧ Ext h0 h ∧ OLat Z h y ((cs.drop st).take len)) := by
  refine own_con (a0 := a0) hEL (plainFor_of_name pn_java_lang_StringLatin1) ?_
  intro p e s m below meth c T hs W0
  have ef : entryFrame m #[(.ref t), (.int (Int32.ofNat st)), (.int (Int32.ofNat len))] 3 = mkF m 0 #[.val (.ref t), .val (.int (Int32.ofNat st)), .val (.int (Int32.ofNat len))] [] := by first | rfl | (simp [entryFrame, mkF, argsToLocals, Value.category]; done)
  rw [ef]
  refine g_iloadN W0 dQ17_0 (pc' := 1) rfl rfl ?_
  rcases Nat.eq_zero_or_pos len with hz | hz
  · skip
    have hzz : (Int32.ofNat len) = 0 := by rw [hz]; rfl
    refine g_ifN W0 dQ17_1 (pc' := 4) (teq hzz).2 rfl ?_
    refine g_ldcS W0 dQ17_4 (pc' := 6) (text := "") (vs := []) (z := 0) (n := 0) rfl (hw _ (List.mem_of_getElem? (i := 94) rfl)) (own_str hw) (by decide) ⟨by decide, rfl⟩ (by decide) rfl (by decide) (by decide) (by decide) (by decide) ?_
    intro T227 h228 a229 b230 k231 E232 f233 f234 f235 f236 W237
    exact g_aret W237 dQ17_6 rfl rfl rfl rfl ⟨a229, rfl, E232, (by rw [hz, List.take_zero]; exact ⟨f233, own_b0, b230, k231, f235, f234, f236⟩)⟩
  · skip
    have hnz : ¬ (Int32.ofNat len) = 0 := Jvm.Free.XT.nz32 (by omega) hz
    refine g_ifY W0 dQ17_1 (pc' := 7) (feq hnz).2 (by decide) (by decide) ?_
    refine g_new W0 dQ17_7 (pc' := 10) rfl (hw _ (List.mem_of_getElem? (i := 127) rfl)) (hw _ (List.mem_of_getElem? (i := 6) rfl)) (hw _ (List.mem_of_getElem? (i := 7) rfl)) (by decide) (by decide) ?_
    intro T238 h239 E240 A241 D242 U243 W244
    obtain ⟨a245, g246⟩ : ∃ z, z = h0.size := ⟨_, rfl⟩
    rw [← g246] at A241 D242 U243 W244 ⊢
    have nx : s.heap.size ≤ a245 := by rw [g246, hs]; exact Nat.le_refl _
    refine g_dup W244 dQ17_10 (pc' := 11) rfl rfl ?_
    refine g_aloadN W244 dQ17_11 (pc' := 12) rfl rfl rfl ?_
    refine g_iloadN W244 dQ17_12 (pc' := 13) rfl rfl ?_
    refine g_iloadN W244 dQ17_13 (pc' := 14) rfl rfl ?_
    refine g_iloadN W244 dQ17_14 (pc' := 15) rfl rfl ?_
    refine g_iadd W244 dQ17_15 (pc' := 16) rfl ?_
    rw [own_add]
    refine g_static W244 dQ17_16 (pc' := 19) rfl (hw _ (List.mem_of_getElem? (i := 128) rfl)) (hw _ (List.mem_of_getElem? (i := 129) rfl)) (hw _ (List.mem_of_getElem? (i := 130) rfl)) (hw _ (List.mem_of_getElem? (i := 131) rfl)) (by decide) (con_cpr l Z a0 hw hEL t kb cs st len hr hne h239 hcap hb (K.ext E240)) pd___BII__B (argsL := [(.ref t), (.int (Int32.ofNat st)), (.int (Int32.ofNat (st + len)))]) (st := [(.ref a245), (.ref a245)]) rfl rfl rfl rfl (by decide) (w := 2) (Nat.le_of_eq rfl) (by decide) (by decide) (by decide) (by simp) (fun q hq => nomatch hq) ?_
    intro v247 T248 h249 S252 q250 W253
    have W251 := W253.sf (SF' := [a245]) (fun _ hx => List.mem_append_right _ hx)
    obtain ⟨t', kb', rfl, X, nt, A⟩ := q250
    refine g_iconst W251 dQ17_19 (pc' := 20) rfl (v := 0) rfl ?_
    have hlen : ((cs.drop st).take len).length = len := by rw [List.length_take, List.length_drop]; omega
    refine g_special W251 dQ17_20 (pc' := 23) rfl rfl (hw _ (List.mem_of_getElem? (i := 143) rfl)) (hw _ (List.mem_of_getElem? (i := 144) rfl)) (hw _ (List.mem_of_getElem? (i := 7) rfl)) (hw _ (List.mem_of_getElem? (i := 145) rfl)) (by decide) (con_nbb l Z a0 hw hEL a245 t' kb' ((cs.drop st).take len) _ _ h249 (own_btake _ (own_bdrop _ hb)) (A241.ext X) ((D242 (Or.inr (hw _ (List.mem_of_getElem? (i := 33) rfl))) (ty := .array .byte) (by decide)).ext X) ((D242 (Or.inr (hw _ (List.mem_of_getElem? (i := 31) rfl))) (ty := .byte) (by decide)).ext X) (by rw [hlen]; exact A)) pd___BB_V (argsL := [(.ref t'), (.int (0 : Int32))]) (st := [(.ref a245)]) rfl rfl rfl rfl (by decide) (w := 1) (Nat.le_of_eq rfl) (by decide) (by decide) (by decide) (by simp) (fun q hq => Or.inr (by rcases List.mem_cons.mp hq with rfl | hq; exact nx; cases List.mem_singleton.mp hq; exact nx)) ?_
    intro v254 T255 h256 S259 q257 W260
    have W258 := W260.sf (SF' := [a245]) (fun _ hx => List.mem_append_right _ hx)
    obtain ⟨rfl, qK, qS⟩ := q257
    have X3 := own_ext_keep (own_ext_tr E240 X) qK (by intro y hy; rw [List.mem_singleton.mp hy, g246]; exact Nat.le_refl _)
    exact g_aret W258 dQ17_23 rfl rfl rfl rfl ⟨a245, rfl, X3, qS⟩
set_option maxRecDepth 65536 in
set_option maxHeartbeats 4000000 in
theorem con_sub (l : Launch) (Z : State) (a0 : Array Value) (hw : ∀ d ∈ tables_1, d.before a0 Z = true) (hEL : EW Z a0 consts_1) (x : Addr) (cs : List Int32) (k : Nat) (zc : Int32) (SC : Sta Z Z.heap "java/lang/String" "COMPACT_STRINGS" "Z" (.int zc)) (hzc : ¬ zc = 0) (fm : Value) (hfm : fm.isRef = true) (SF1 : Sta Z Z.heap "jdk/internal/util/Preconditions" "SIOOBE_FORMATTER" "Ljava/util/function/BiFunction;" fm) (h0 : Heap) (O : Ext Z.heap h0) (S : OLat Z h0 x cs) (hcap : cs.length ≤ 4) (hk : k < cs.length) :
    Ocon l Z consts_1 (⟨"java/lang/String", "substring", "(II)Ljava/lang/String;"⟩ : MethodName) jdk_42_method_92_code 5 (some (.object "java/lang/String")) [] ({ frames := 4, cells := 2, slots := 8, locals := 72 } : Room) #[(.ref x), (.int (0 : Int32)), (.int (Int32.ofNat k))] h0 [] [] (fun v h _ => ∃ y, v = some (.ref y) ∧ Ext h0 h ∧ OLat Z h y (cs.take k)) := by
  refine own_con (a0 := a0) hEL (plainFor_of_name pn_java_lang_String) ?_
  intro p e s m below meth c T hs W0
  have ef : entryFrame m #[(.ref x), (.int (0 : Int32)), (.int (Int32.ofNat k))] 5 = mkF m 0 #[.val (.ref x), .val (.int (0 : Int32)), .val (.int (Int32.ofNat k)), .unset, .unset] [] := by first | rfl | (simp [entryFrame, mkF, argsToLocals, Value.category]; done)
  rw [ef]
  obtain ⟨sE, sB, t, kb, sV, sC, sA⟩ := id S
  refine g_aloadN W0 dQ26_0 (pc' := 1) rfl rfl rfl ?_
  refine g_virtual W0 dQ26_1 (pc' := 4) (C := "java/lang/String") rfl (hw _ (List.mem_of_getElem? (i := 56) rfl)) (hw _ (List.mem_of_getElem? (i := 57) rfl)) (hw _ (List.mem_of_getElem? (i := 59) rfl)) (hw _ (List.mem_of_getElem? (i := 59) rfl)) (hw _ (List.mem_of_getElem? (i := 58) rfl)) (hw _ (List.mem_of_getElem? (i := 7) rfl)) (hw _ (List.mem_of_getElem? (i := 60) rfl)) (by decide) (S).1 (con_len l Z a0 hw hEL x cs zc SC hzc h0 O S) pd___I (argsL := []) (st := []) rfl rfl rfl rfl (by decide) (w := 0) (Nat.le_of_eq rfl) (by decide) (by decide) (by decide) (by simp) (fun q hq => nomatch hq) ?_
  intro v261 T262 h263 S266 q264 W267
  have W265 := W267.sf (SF' := []) (fun _ hx => List.mem_append_right _ hx)
  obtain ⟨rfl, rfl⟩ := q264
  refine g_istoreN W265 dQ26_4 (pc' := 5) rfl (ls' := #[.val (.ref x), .val (.int (0 : Int32)), .val (.int (Int32.ofNat k)), .val (.int (Int32.ofNat cs.length)), .unset]) rfl ?_
  refine g_iloadN W265 dQ26_5 (pc' := 6) rfl rfl ?_
  refine g_iloadN W265 dQ26_6 (pc' := 7) rfl rfl ?_
  refine g_iloadN W265 dQ26_7 (pc' := 8) rfl rfl ?_
  refine g_static W265 dQ26_8 (pc' := 11) rfl (hw _ (List.mem_of_getElem? (i := 151) rfl)) (hw _ (List.mem_of_getElem? (i := 152) rfl)) (hw _ (List.mem_of_getElem? (i := 7) rfl)) (hw _ (List.mem_of_getElem? (i := 153) rfl)) (by decide) (con_cbe l Z a0 hw hEL k cs.length fm hfm SF1 h0 O (Nat.le_of_lt hk) (by omega)) pd__III_V (argsL := [(.int (0 : Int32)), (.int (Int32.ofNat k)), (.int (Int32.ofNat cs.length))]) (st := []) rfl rfl rfl rfl (by decide) (w := 0) (Nat.le_of_eq rfl) (by decide) (by decide) (by decide) (by simp) (fun q hq => nomatch hq) ?_
  intro v268 T269 h270 S273 q271 W274
  have W272 := W274.sf (SF' := []) (fun _ hx => List.mem_append_right _ hx)
  obtain ⟨rfl, rfl⟩ := q271
  refine g_iloadN W272 dQ26_11 (pc' := 12) rfl rfl ?_
  refine g_ifN W272 dQ26_12 (pc' := 15) (teq (by decide : (0 : Int32) = (0 : Int32))).2 rfl ?_
  refine g_iloadN W272 dQ26_15 (pc' := 16) rfl rfl ?_
  refine g_iloadN W272 dQ26_16 (pc' := 17) rfl rfl ?_
  refine g_icY W272 dQ26_17 (pc' := 22) (feq (fun z => Nat.ne_of_lt hk (own_inj (by omega) (by omega) z))).2 (by decide) (by decide) ?_
  refine g_iloadN W272 dQ26_22 (pc' := 23) rfl rfl ?_
  refine g_iloadN W272 dQ26_23 (pc' := 24) rfl rfl ?_
  refine g_isub W272 dQ26_24 (pc' := 25) rfl ?_
  rw [show Int32.ofNat k - (0 : Int32) = Int32.ofNat k from Int32.sub_zero _]
  refine g_istore W272 dQ26_25 (pc' := 27) rfl (ls' := #[.val (.ref x), .val (.int (0 : Int32)), .val (.int (Int32.ofNat k)), .val (.int (Int32.ofNat cs.length)), .val (.int (Int32.ofNat k))]) rfl ?_
  refine g_aloadN W272 dQ26_27 (pc' := 28) rfl rfl rfl ?_
  refine g_virtual W272 dQ26_28 (pc' := 31) (C := "java/lang/String") rfl (hw _ (List.mem_of_getElem? (i := 51) rfl)) (hw _ (List.mem_of_getElem? (i := 52) rfl)) (hw _ (List.mem_of_getElem? (i := 54) rfl)) (hw _ (List.mem_of_getElem? (i := 54) rfl)) (hw _ (List.mem_of_getElem? (i := 53) rfl)) (hw _ (List.mem_of_getElem? (i := 7) rfl)) (hw _ (List.mem_of_getElem? (i := 55) rfl)) (by decide) sE (con_isl l Z a0 hw hEL x zc SC hzc h0 O sC) pd___Z (argsL := []) (st := []) rfl rfl rfl rfl (by decide) (w := 0) (Nat.le_of_eq rfl) (by decide) (by decide) (by decide) (by simp) (fun q hq => nomatch hq) ?_
  intro v275 T276 h277 S280 q278 W281
  have W279 := W281.sf (SF' := []) (fun _ hx => List.mem_append_right _ hx)
  obtain ⟨rfl, rfl⟩ := q278
  refine g_ifN W279 dQ26_31 (pc' := 34) (feq (by decide : ¬ ((1 : Int32) = (0 : Int32)))).1 rfl ?_
  refine g_aloadN W279 dQ26_34 (pc' := 35) rfl rfl rfl ?_
  refine g_getF W279 dQ26_35 (pc' := 38) rfl (hw _ (List.mem_of_getElem? (i := 32) rfl)) sV ?_
  intro T283 W282
  refine g_iloadN W282 dQ26_38 (pc' := 39) rfl rfl ?_
  refine g_iload W282 dQ26_39 (pc' := 41) rfl rfl ?_
  refine g_static W282 dQ26_41 (pc' := 44) rfl (hw _ (List.mem_of_getElem? (i := 159) rfl)) (hw _ (List.mem_of_getElem? (i := 92) rfl)) (hw _ (List.mem_of_getElem? (i := 68) rfl)) (hw _ (List.mem_of_getElem? (i := 93) rfl)) (by decide) (con_nst l Z a0 hw hEL t kb cs 0 k (by omega) (fun z => Nat.ne_of_lt hk z.2) h0 hcap sB sA) pd___BII_Ljava_lang_String_ (argsL := [(.ref t), (.int (0 : Int32)), (.int (Int32.ofNat k))]) (st := []) rfl rfl rfl rfl (by decide) (w := 0) (Nat.le_of_eq rfl) (by decide) (by decide) (by decide) (by simp) (fun q hq => nomatch hq) ?_
  intro v284 T285 h286 S289 q287 W290
  have W288 := W290.sf (SF' := []) (fun _ hx => List.mem_append_right _ hx)
  obtain ⟨y, rfl, X, Sy⟩ := q287
  refine g_goto W288 dQ26_44 (pc' := 57) (by decide) (by decide) ?_
  exact g_aret W288 dQ26_57 rfl rfl rfl rfl ⟨y, rfl, X, Sy⟩
set_option maxRecDepth 65536 in
set_option maxHeartbeats 4000000 in
theorem con_ltr (l : Launch) (Z : State) (a0 : Array Value) (hw : ∀ d ∈ tables_1, d.before a0 Z = true) (hEL : EW Z a0 consts_1) (t : Addr) (kb : ClassId) (cs : List Int32) (h0 : Heap) (hcap : cs.length ≤ 4) (hb : ∀ c ∈ cs, ¬ c < 0 ∧ ¬ (255 : Int32) < c) (K : Arv Z h0 t kb .byte (Int32.ofNat cs.length) (cs.map fun c => Value.int (StrChars.lo8 c)) (.int 0)) :
    Ocon l Z consts_1 (⟨"java/lang/StringLatin1", "trim", "([B)Ljava/lang/String;"⟩ : MethodName) jdk_43_method_36_code 3 (some (.object "java/lang/String")) [] ({ frames := 4, cells := 2, slots := 8, locals := 71 } : Room) #[(.ref t)] h0 [] [] (fun v h _ => Ext h0 h ∧ ((v = some .null ∧ own_tr cs = cs) ∨ ∃ y, v = some (.ref y) ∧ OLat Z h y (own_tr cs))) := by
  refine own_con (a0 := a0) hEL (plainFor_of_name pn_java_lang_StringLatin1) ?_
  intro p e s m below meth c T hs W0
  have hcl : (Int32.ofNat cs.length).toNatClampNeg = cs.length := own_clamp (by omega)
  have s53 : ∀ (T : State) (st ed : Nat), st = own_first own_p32 cs → ed = own_e cs → Owk p l e ({ frames := 4, cells := 2, slots := 8, locals := 71 } : Room) s m #[(.ref t)] below meth c Z a0 consts_1 [] "java/lang/StringLatin1" "trim" jdk_43_method_36_code 3 (some (.object "java/lang/String")) T h0 [] 0 0 → Ogo p l e ({ frames := 4, cells := 2, slots := 8, locals := 71 } : Room) s m #[(.ref t)] below meth c Z a0 consts_1 [] "java/lang/StringLatin1" "trim" jdk_43_method_36_code 3 (some (.object "java/lang/String")) T (mkF m 53 #[.val (.ref t), .val (.int (Int32.ofNat ed)), .val (.int (Int32.ofNat st))] []) (fun v h _ => Ext h0 h ∧ ((v = some .null ∧ own_tr cs = cs) ∨ ∃ y, v = some (.ref y) ∧ OLat Z h y (own_tr cs))) := by
    intro T st ed hst hed W0
    have q1 := own_e_ge cs
    have q2 := own_e_le cs
    have htr : own_tr cs = (cs.drop st).take (ed - st) := by rw [hst, hed]; rfl
    refine g_iloadN W0 dQ16_53 (pc' := 54) rfl rfl ?_
    by_cases c291 : (0 : Int32) < (Int32.ofNat st)
    · skip
      refine g_ifY W0 dQ16_54 (pc' := 63) (tlt c291).2.2.1 (by decide) (by decide) ?_
      refine g_aloadN W0 dQ16_63 (pc' := 64) rfl rfl rfl ?_
      refine g_iloadN W0 dQ16_64 (pc' := 65) rfl rfl ?_
      refine g_iloadN W0 dQ16_65 (pc' := 66) rfl rfl ?_
      refine g_iloadN W0 dQ16_66 (pc' := 67) rfl rfl ?_
      refine g_isub W0 dQ16_67 (pc' := 68) rfl ?_
      rw [own_subn (by omega) (show st ≤ ed by omega)]
      refine g_static W0 dQ16_68 (pc' := 71) rfl (hw _ (List.mem_of_getElem? (i := 91) rfl)) (hw _ (List.mem_of_getElem? (i := 92) rfl)) (hw _ (List.mem_of_getElem? (i := 68) rfl)) (hw _ (List.mem_of_getElem? (i := 93) rfl)) (by decide) (con_nst l Z a0 hw hEL t kb cs st (ed - st) (by omega) (fun z => absurd c291 (by rw [z.1]; decide)) h0 hcap hb K) pd___BII_Ljava_lang_String_ (argsL := [(.ref t), (.int (Int32.ofNat st)), (.int (Int32.ofNat (ed - st)))]) (st := []) rfl rfl rfl rfl (by decide) (w := 0) (Nat.le_of_eq rfl) (by decide) (by decide) (by decide) (by simp) (fun q hq => nomatch hq) ?_
      intro v292 T293 h294 S297 q295 W298
      have W296 := W298.sf (SF' := []) (fun _ hx => List.mem_append_right _ hx)
      obtain ⟨y, rfl, X, Sy⟩ := q295
      refine g_goto W296 dQ16_71 (pc' := 75) (by decide) (by decide) ?_
      exact g_aret W296 dQ16_75 rfl rfl rfl rfl ⟨X, Or.inr ⟨y, rfl, by rw [htr]; exact Sy⟩⟩
    · skip
      refine g_ifN W0 dQ16_54 (pc' := 57) (flt c291).2.2.1 rfl ?_
      refine g_iloadN W0 dQ16_57 (pc' := 58) rfl rfl ?_
      refine g_aloadN W0 dQ16_58 (pc' := 59) rfl rfl rfl ?_
      refine g_alen W0 dQ16_59 (pc' := 60) rfl K ?_
      by_cases c299 : (Int32.ofNat ed) < (Int32.ofNat cs.length)
      · skip
        refine g_icN W0 dQ16_60 (pc' := 63) (tlt c299).2.1 rfl ?_
        refine g_aloadN W0 dQ16_63 (pc' := 64) rfl rfl rfl ?_
        refine g_iloadN W0 dQ16_64 (pc' := 65) rfl rfl ?_
        refine g_iloadN W0 dQ16_65 (pc' := 66) rfl rfl ?_
        refine g_iloadN W0 dQ16_66 (pc' := 67) rfl rfl ?_
        refine g_isub W0 dQ16_67 (pc' := 68) rfl ?_
        rw [own_subn (by omega) (show st ≤ ed by omega)]
        refine g_static W0 dQ16_68 (pc' := 71) rfl (hw _ (List.mem_of_getElem? (i := 91) rfl)) (hw _ (List.mem_of_getElem? (i := 92) rfl)) (hw _ (List.mem_of_getElem? (i := 68) rfl)) (hw _ (List.mem_of_getElem? (i := 93) rfl)) (by decide) (con_nst l Z a0 hw hEL t kb cs st (ed - st) (by omega) (fun z => absurd c299 (own_nlt (by omega) (by omega))) h0 hcap hb K) pd___BII_Ljava_lang_String_ (argsL := [(.ref t), (.int (Int32.ofNat st)), (.int (Int32.ofNat (ed - st)))]) (st := []) rfl rfl rfl rfl (by decide) (w := 0) (Nat.le_of_eq rfl) (by decide) (by decide) (by decide) (by simp) (fun q hq => nomatch hq) ?_
        intro v300 T301 h302 S305 q303 W306
        have W304 := W306.sf (SF' := []) (fun _ hx => List.mem_append_right _ hx)
        obtain ⟨y, rfl, X, Sy⟩ := q303
        refine g_goto W304 dQ16_71 (pc' := 75) (by decide) (by decide) ?_
        exact g_aret W304 dQ16_75 rfl rfl rfl rfl ⟨X, Or.inr ⟨y, rfl, by rw [htr]; exact Sy⟩⟩
      · skip
        refine g_icY W0 dQ16_60 (pc' := 74) (flt c299).2.1 (by decide) (by decide) ?_
        refine g_aconst_null W0 dQ16_74 (pc' := 75) rfl ?_
        exact g_aret W0 dQ16_75 rfl rfl rfl rfl ⟨own_ext_rf _, Or.inl ⟨rfl, by have e1 := own_zero (by omega) c291; have e2 := own_eqn (by omega) (show ed ≤ cs.length by omega) c299; rw [htr, e1, ← e2]; simp⟩⟩
  have s28 : ∀ (kk : Nat) (T : State) (st ed : Nat), st = own_first own_p32 cs → ed = st + kk → ed ≤ cs.length → (∀ i, ed ≤ i → i < cs.length → ¬ (32 : Int32) < cs.getD i 0) → Owk p l e ({ frames := 4, cells := 2, slots := 8, locals := 71 } : Room) s m #[(.ref t)] below meth c Z a0 consts_1 [] "java/lang/StringLatin1" "trim" jdk_43_method_36_code 3 (some (.object "java/lang/String")) T h0 [] 0 0 → Ogo p l e ({ frames := 4, cells := 2, slots := 8, locals := 71 } : Room) s m #[(.ref t)] below meth c Z a0 consts_1 [] "java/lang/StringLatin1" "trim" jdk_43_method_36_code 3 (some (.object "java/lang/String")) T (mkF m 28 #[.val (.ref t), .val (.int (Int32.ofNat ed)), .val (.int (Int32.ofNat st))] []) (fun v h _ => Ext h0 h ∧ ((v = some .null ∧ own_tr cs = cs) ∨ ∃ y, v = some (.ref y) ∧ OLat Z h y (own_tr cs))) := by
    intro kk
    induction kk with
    | zero =>
      intro T st ed hst hk hl hq W0
      refine g_iloadN W0 dQ16_28 (pc' := 29) rfl rfl ?_
      refine g_iloadN W0 dQ16_29 (pc' := 30) rfl rfl ?_
      refine g_icY W0 dQ16_30 (pc' := 53) (flt (own_nlt (by omega) (by omega))).2.1 (by decide) (by decide) ?_
      exact s53 T st ed hst (own_e_is cs ed (by omega) hl hq (fun z => absurd z (by omega))) W0
    | succ kk ih =>
      intro T st ed hst hk hl hq W0
      have hin : st + kk < cs.length := by omega
      have hlo := (own_tabc (hb _ (own_mem hin))).2.2.2.1
      refine g_iloadN W0 dQ16_28 (pc' := 29) rfl rfl ?_
      refine g_iloadN W0 dQ16_29 (pc' := 30) rfl rfl ?_
      refine g_icN W0 dQ16_30 (pc' := 33) (tlt (own_lt (by omega) (by omega))).2.1 rfl ?_
      refine g_aloadN W0 dQ16_33 (pc' := 34) rfl rfl rfl ?_
      refine g_iloadN W0 dQ16_34 (pc' := 35) rfl rfl ?_
      refine g_iconst W0 dQ16_35 (pc' := 36) rfl (v := 1) rfl ?_
      refine g_isub W0 dQ16_36 (pc' := 37) rfl ?_
      rw [show Int32.ofNat ed - (1 : Int32) = Int32.ofNat (st + kk) from (own_subn (j := 1) (by omega) (by omega)).trans (by rw [hk]; rfl)]
      refine g_baload W0 dQ16_37 (pc' := 38) rfl K (i := (st + kk)) rfl (by rw [hcl]; exact hin) (v := (.int (StrChars.lo8 (cs.getD (st + kk) 0)))) (StrChars.Road.low_at _ cs (st + kk) hin) ?_
      refine g_sipush W0 dQ16_38 (pc' := 41) rfl (v := 255) rfl ?_
      refine g_iand W0 dQ16_41 (pc' := 42) rfl ?_
      rw [hlo]
      refine g_bipush W0 dQ16_42 (pc' := 44) rfl (v := 32) rfl ?_
      by_cases c307 : (32 : Int32) < (cs.getD (st + kk) 0)
      · skip
        refine g_icY W0 dQ16_44 (pc' := 53) (tlt c307).2.2.1 (by decide) (by decide) ?_
        exact s53 T st ed hst (own_e_is cs ed (by omega) hl hq (fun _ => by rw [show ed - 1 = st + kk by omega]; exact c307)) W0
      · skip
        refine g_icN W0 dQ16_44 (pc' := 47) (flt c307).2.2.1 rfl ?_
        refine g_iinc W0 dQ16_47 (pc' := 50) (v := Int32.ofNat (st + kk)) (ls' := #[.val (.ref t), .val (.int (Int32.ofNat (st + kk))), .val (.int (Int32.ofNat st))]) rfl rfl ((own_dec _).trans ((own_subn (j := 1) (by omega) (by omega)).trans (by rw [hk]; rfl))) rfl ?_
        refine g_goto W0 dQ16_50 (pc' := 28) (by decide) (by decide) ?_
        refine ih T st (st + kk) hst rfl (by omega) (fun i h1 h2 => ?_) W0
        by_cases q : i = st + kk
        · subst q; exact c307
        · exact hq i (by omega) h2
  have s5 : ∀ (kk : Nat) (T : State) (i : Nat), i + kk = cs.length → (∀ i', i' < i → own_p32 (cs.getD i' 0) = false) → Owk p l e ({ frames := 4, cells := 2, slots := 8, locals := 71 } : Room) s m #[(.ref t)] below meth c Z a0 consts_1 [] "java/lang/StringLatin1" "trim" jdk_43_method_36_code 3 (some (.object "java/lang/String")) T h0 [] 0 0 → Ogo p l e ({ frames := 4, cells := 2, slots := 8, locals := 71 } : Room) s m #[(.ref t)] below meth c Z a0 consts_1 [] "java/lang/StringLatin1" "trim" jdk_43_method_36_code 3 (some (.object "java/lang/String")) T (mkF m 5 #[.val (.ref t), .val (.int (Int32.ofNat cs.length)), .val (.int (Int32.ofNat i))] []) (fun v h _ => Ext h0 h ∧ ((v = some .null ∧ own_tr cs = cs) ∨ ∃ y, v = some (.ref y) ∧ OLat Z h y (own_tr cs))) := by
    intro kk
    induction kk with
    | zero =>
      intro T i hi hq W0
      have e1 := own_first_is own_p32 cs i (by omega) hq (fun z => absurd z (by omega))
      refine g_iloadN W0 dQ16_5 (pc' := 6) rfl rfl ?_
      refine g_iloadN W0 dQ16_6 (pc' := 7) rfl rfl ?_
      refine g_icY W0 dQ16_7 (pc' := 28) (flt (own_nlt (by omega) (by omega))).2.1 (by decide) (by decide) ?_
      exact s28 0 T i cs.length e1 (by omega) (Nat.le_refl _) (fun i' h1 h2 => absurd h1 (by omega)) W0
    | succ kk ih =>
      intro T i hi hq W0
      have hin : i < cs.length := by omega
      have hlo := (own_tabc (hb _ (own_mem hin))).2.2.2.1
      refine g_iloadN W0 dQ16_5 (pc' := 6) rfl rfl ?_
      refine g_iloadN W0 dQ16_6 (pc' := 7) rfl rfl ?_
      refine g_icN W0 dQ16_7 (pc' := 10) (tlt (own_lt (by omega) hin)).2.1 rfl ?_
      refine g_aloadN W0 dQ16_10 (pc' := 11) rfl rfl rfl ?_
      refine g_iloadN W0 dQ16_11 (pc' := 12) rfl rfl ?_
      refine g_baload W0 dQ16_12 (pc' := 13) rfl K (i := i) rfl (by rw [hcl]; exact hin) (v := (.int (StrChars.lo8 (cs.getD i 0)))) (StrChars.Road.low_at _ cs i hin) ?_
      refine g_sipush W0 dQ16_13 (pc' := 16) rfl (v := 255) rfl ?_
      refine g_iand W0 dQ16_16 (pc' := 17) rfl ?_
      rw [hlo]
      refine g_bipush W0 dQ16_17 (pc' := 19) rfl (v := 32) rfl ?_
      by_cases c308 : (32 : Int32) < (cs.getD (i) 0)
      · skip
        refine g_icY W0 dQ16_19 (pc' := 28) (tlt c308).2.2.1 (by decide) (by decide) ?_
        exact s28 (cs.length - i) T i cs.length (own_first_is own_p32 cs i (Nat.le_of_lt hin) hq (fun _ => decide_eq_true c308)) (by omega) (Nat.le_refl _) (fun i' h1 h2 => absurd h1 (by omega)) W0
      · skip
        refine g_icN W0 dQ16_19 (pc' := 22) (flt c308).2.2.1 rfl ?_
        refine g_iinc W0 dQ16_22 (pc' := 25) (v := Int32.ofNat (i + 1)) (ls' := #[.val (.ref t), .val (.int (Int32.ofNat cs.length)), .val (.int (Int32.ofNat (i + 1)))]) rfl rfl (own_succ i) rfl ?_
        refine g_goto W0 dQ16_25 (pc' := 5) (by decide) (by decide) ?_
        refine ih T (i + 1) (by omega) (fun i' hi' => ?_) W0
        by_cases q : i' = i
        · subst q; exact decide_eq_false c308
        · exact hq i' (by omega)
  have ef : entryFrame m #[(.ref t)] 3 = mkF m 0 #[.val (.ref t), .unset, .unset] [] := by first | rfl | (simp [entryFrame, mkF, argsToLocals, Value.category]; done)
  rw [ef]
  refine g_aloadN W0 dQ16_0 (pc' := 1) rfl rfl rfl ?_
  refine g_alen W0 dQ16_1 (pc' := 2) rfl K ?_
  refine g_istoreN W0 dQ16_2 (pc' := 3) rfl (ls' := #[.val (.ref t), .val (.int (Int32.ofNat cs.length)), .unset]) rfl ?_
  refine g_iconst W0 dQ16_3 (pc' := 4) rfl (v := 0) rfl ?_
  refine g_istoreN W0 dQ16_4 (pc' := 5) rfl (ls' := #[.val (.ref t), .val (.int (Int32.ofNat cs.length)), .val (.int (0 : Int32))]) rfl ?_
  exact s5 cs.length T 0 (by omega) (fun i' hi' => absurd hi' (Nat.not_lt_zero _)) W0
set_option maxRecDepth 65536 in
set_option maxHeartbeats 4000000 in
theorem con_trm (l : Launch) (Z : State) (a0 : Array Value) (hw : ∀ d ∈ tables_1, d.before a0 Z = true) (hEL : EW Z a0 consts_1) (x : Addr) (cs : List Int32) (zc : Int32) (SC : Sta Z Z.heap "java/lang/String" "COMPACT_STRINGS" "Z" (.int zc)) (hzc : ¬ zc = 0) (h0 : Heap) (O : Ext Z.heap h0) (S : OLat Z h0 x cs) (hcap : cs.length ≤ 4) :
    Ocon l Z consts_1 (⟨"java/lang/String", "trim", "()Ljava/lang/String;"⟩ : MethodName) jdk_42_method_113_code 2 (some (.object "java/lang/String")) [] ({ frames := 5, cells := 2, slots := 8, locals := 86 } : Room) #[(.ref x)] h0 [] [] (fun v h _ => ∃ y, v = some (.ref y) ∧ Ext h0 h ∧ OLat Z h y (own_tr cs)) := by
  refine own_con (a0 := a0) hEL (plainFor_of_name pn_java_lang_String) ?_
  intro p e s m below meth c T hs W0
  have ef : entryFrame m #[(.ref x)] 2 = mkF m 0 #[.val (.ref x), .unset] [] := by first | rfl | (simp [entryFrame, mkF, argsToLocals, Value.category]; done)
  rw [ef]
  obtain ⟨sE, sB, t, kb, sV, sC, sA⟩ := id S
  refine g_aloadN W0 dQ15_0 (pc' := 1) rfl rfl rfl ?_
  refine g_virtual W0 dQ15_1 (pc' := 4) (C := "java/lang/String") rfl (hw _ (List.mem_of_getElem? (i := 51) rfl)) (hw _ (List.mem_of_getElem? (i := 52) rfl)) (hw _ (List.mem_of_getElem? (i := 54) rfl)) (hw _ (List.mem_of_getElem? (i := 54) rfl)) (hw _ (List.mem_of_getElem? (i := 53) rfl)) (hw _ (List.mem_of_getElem? (i := 7) rfl)) (hw _ (List.mem_of_getElem? (i := 55) rfl)) (by decide) sE (con_isl l Z a0 hw hEL x zc SC hzc h0 O sC) pd___Z (argsL := []) (st := []) rfl rfl rfl rfl (by decide) (w := 0) (Nat.le_of_eq rfl) (by decide) (by decide) (by decide) (by simp) (fun q hq => nomatch hq) ?_
  intro v309 T310 h311 S314 q312 W315
  have W313 := W315.sf (SF' := []) (fun _ hx => List.mem_append_right _ hx)
  obtain ⟨rfl, rfl⟩ := q312
  refine g_ifN W313 dQ15_4 (pc' := 7) (feq (by decide : ¬ ((1 : Int32) = (0 : Int32)))).1 rfl ?_
  refine g_aloadN W313 dQ15_7 (pc' := 8) rfl rfl rfl ?_
  refine g_getF W313 dQ15_8 (pc' := 11) rfl (hw _ (List.mem_of_getElem? (i := 32) rfl)) sV ?_
  intro T317 W316
  refine g_static W316 dQ15_11 (pc' := 14) rfl (hw _ (List.mem_of_getElem? (i := 88) rfl)) (hw _ (List.mem_of_getElem? (i := 89) rfl)) (hw _ (List.mem_of_getElem? (i := 68) rfl)) (hw _ (List.mem_of_getElem? (i := 90) rfl)) (by decide) (con_ltr l Z a0 hw hEL t kb cs h0 hcap sB sA) pd___B_Ljava_lang_String_ (argsL := [(.ref t)]) (st := []) rfl rfl rfl rfl (by decide) (w := 0) (Nat.le_of_eq rfl) (by decide) (by decide) (by decide) (by simp) (fun q hq => nomatch hq) ?_
  intro v318 T319 h320 S323 q321 W324
  have W322 := W324.sf (SF' := []) (fun _ hx => List.mem_append_right _ hx)
  obtain ⟨X, ⟨rfl, qt⟩ | ⟨y, rfl, Sy⟩⟩ := q321
  · skip
    refine g_goto W322 dQ15_14 (pc' := 24) (by decide) (by decide) ?_
    refine g_astoreN W322 dQ15_24 (pc' := 25) rfl (ls' := #[.val (.ref x), .val .null]) rfl rfl ?_
    refine g_aloadN W322 dQ15_25 (pc' := 26) rfl rfl rfl ?_
    refine g_nnN W322 dQ15_26 (pc' := 29) rfl ?_
    refine g_aloadN W322 dQ15_29 (pc' := 30) rfl rfl rfl ?_
    refine g_goto W322 dQ15_30 (pc' := 34) (by decide) (by decide) ?_
    exact g_aret W322 dQ15_34 rfl rfl rfl rfl ⟨x, rfl, X, by rw [qt]; exact S.ext X⟩
  · skip
    refine g_goto W322 dQ15_14 (pc' := 24) (by decide) (by decide) ?_
    refine g_astoreN W322 dQ15_24 (pc' := 25) rfl (ls' := #[.val (.ref x), .val (.ref y)]) rfl rfl ?_
    refine g_aloadN W322 dQ15_25 (pc' := 26) rfl rfl rfl ?_
    refine g_nnY W322 dQ15_26 (pc' := 33) (by decide) (by decide) ?_
    refine g_aloadN W322 dQ15_33 (pc' := 34) rfl rfl rfl ?_
    exact g_aret W322 dQ15_34 rfl rfl rfl rfl ⟨y, rfl, X, Sy⟩
theorem pn_java_lang_CharacterDataLatin1 : plainName "java/lang/CharacterDataLatin1" = true := by first | (simp [plainName, overriddenIn]; done) | decide +kernel
set_option maxRecDepth 65536 in
set_option maxHeartbeats 4000000 in
theorem con_cei (l : Launch) (Z : State) (a0 : Array Value) (hw : ∀ d ∈ tables_1, d.before a0 Z = true) (hEL : EW Z a0 consts_1) (c1 d1 : Int32) (hc : ¬ c1 < 0 ∧ ¬ (255 : Int32) < c1) (hd : ¬ d1 < 0 ∧ ¬ (255 : Int32) < d1) (h0 : Heap) :
    Ocon l Z consts_1 (⟨"java/lang/CharacterDataLatin1", "equalsIgnoreCase", "(BB)Z"⟩ : MethodName) jdk_116_method_22_code 3 (some .boolean) [] ({ frames := 0, cells := 0, slots := 0, locals := 0 } : Room) #[(.int (StrChars.lo8 c1)), (.int (StrChars.lo8 d1))] h0 [] [] (fun v h _ => h0 = h ∧ ((v = some (.int 1) ∧ own_fold c1 = own_fold d1) ∨ (v = some (.int 0) ∧ ¬ own_fold c1 = own_fold d1))) := by
  refine own_con (a0 := a0) hEL (plainFor_of_name pn_java_lang_CharacterDataLatin1) ?_
  intro p e s m below meth c T hs W0
  have ef : entryFrame m #[(.int (StrChars.lo8 c1)), (.int (StrChars.lo8 d1))] 3 = mkF m 0 #[.val (.int (StrChars.lo8 c1)), .val (.int (StrChars.lo8 d1)), .unset] [] := by first | rfl | (simp [entryFrame, mkF, argsToLocals, Value.category]; done)
  rw [ef]
  refine g_iloadN W0 dQ21_0 (pc' := 1) rfl rfl ?_
  refine g_iloadN W0 dQ21_1 (pc' := 2) rfl rfl ?_
  by_cases c325 : (StrChars.lo8 c1) = (StrChars.lo8 d1)
  · skip
    refine g_icN W0 dQ21_2 (pc' := 5) (teq c325).2 rfl ?_
    refine g_iconst W0 dQ21_5 (pc' := 6) rfl (v := 1) rfl ?_
    exact g_iret W0 dQ21_6 rfl (Or.inr (Or.inl rfl)) rfl ⟨rfl, Or.inl ⟨rfl, (own_ci hc hd).mpr (Or.inl c325)⟩⟩
  · skip
    refine g_icY W0 dQ21_2 (pc' := 7) (feq c325).2 (by decide) (by decide) ?_
    refine g_iloadN W0 dQ21_7 (pc' := 8) rfl rfl ?_
    refine g_sipush W0 dQ21_8 (pc' := 11) rfl (v := 223) rfl ?_
    refine g_iand W0 dQ21_11 (pc' := 12) rfl ?_
    refine g_istoreN W0 dQ21_12 (pc' := 13) rfl (ls' := #[.val (.int (StrChars.lo8 c1)), .val (.int (StrChars.lo8 d1)), .val (.int ((StrChars.lo8 c1) &&& (223 : Int32)))]) rfl ?_
    refine g_iloadN W0 dQ21_13 (pc' := 14) rfl rfl ?_
    refine g_bipush W0 dQ21_14 (pc' := 16) rfl (v := 65) rfl ?_
    by_cases c326 : ((StrChars.lo8 c1) &&& (223 : Int32)) < (65 : Int32)
    · skip
      refine g_icN W0 dQ21_16 (pc' := 19) (tlt c326).2.1 rfl ?_
      refine g_iconst W0 dQ21_19 (pc' := 20) rfl (v := 0) rfl ?_
      exact g_iret W0 dQ21_20 rfl (Or.inr (Or.inl rfl)) rfl ⟨rfl, Or.inr ⟨rfl, fun z => ((own_ci hc hd).mp z).elim c325 (fun y => y.1.1 c326)⟩⟩
    · skip
      refine g_icY W0 dQ21_16 (pc' := 21) (flt c326).2.1 (by decide) (by decide) ?_
      refine g_iloadN W0 dQ21_21 (pc' := 22) rfl rfl ?_
      refine g_bipush W0 dQ21_22 (pc' := 24) rfl (v := 90) rfl ?_
      by_cases c327 : (90 : Int32) < ((StrChars.lo8 c1) &&& (223 : Int32))
      · skip
        refine g_icN W0 dQ21_24 (pc' := 27) (tlt c327).2.2.2 rfl ?_
        refine g_iloadN W0 dQ21_27 (pc' := 28) rfl rfl ?_
        refine g_sipush W0 dQ21_28 (pc' := 31) rfl (v := 192) rfl ?_
        by_cases c328 : ((StrChars.lo8 c1) &&& (223 : Int32)) < (192 : Int32)
        · skip
          refine g_icY W0 dQ21_31 (pc' := 61) (tlt c328).1 (by decide) (by decide) ?_
          refine g_iconst W0 dQ21_61 (pc' := 62) rfl (v := 0) rfl ?_
          exact g_iret W0 dQ21_62 rfl (Or.inr (Or.inl rfl)) rfl ⟨rfl, Or.inr ⟨rfl, fun z => ((own_ci hc hd).mp z).elim c325 (fun y => y.1.2.elim (fun q => q c327) (fun q => q.1 c328))⟩⟩
        · skip
          refine g_icN W0 dQ21_31 (pc' := 34) (flt c328).1 rfl ?_
          refine g_iloadN W0 dQ21_34 (pc' := 35) rfl rfl ?_
          refine g_sipush W0 dQ21_35 (pc' := 38) rfl (v := 222) rfl ?_
          by_cases c329 : (222 : Int32) < ((StrChars.lo8 c1) &&& (223 : Int32))
          · skip
            refine g_icY W0 dQ21_38 (pc' := 61) (tlt c329).2.2.1 (by decide) (by decide) ?_
            refine g_iconst W0 dQ21_61 (pc' := 62) rfl (v := 0) rfl ?_
            exact g_iret W0 dQ21_62 rfl (Or.inr (Or.inl rfl)) rfl ⟨rfl, Or.inr ⟨rfl, fun z => ((own_ci hc hd).mp z).elim c325 (fun y => y.1.2.elim (fun q => q c327) (fun q => q.2.1 c329))⟩⟩
          · skip
            refine g_icN W0 dQ21_38 (pc' := 41) (flt c329).2.2.1 rfl ?_
            refine g_iloadN W0 dQ21_41 (pc' := 42) rfl rfl ?_
            refine g_sipush W0 dQ21_42 (pc' := 45) rfl (v := 215) rfl ?_
            by_cases c330 : ((StrChars.lo8 c1) &&& (223 : Int32)) = (215 : Int32)
            · skip
              refine g_icY W0 dQ21_45 (pc' := 61) (teq c330).1 (by decide) (by decide) ?_
              refine g_iconst W0 dQ21_61 (pc' := 62) rfl (v := 0) rfl ?_
              exact g_iret W0 dQ21_62 rfl (Or.inr (Or.inl rfl)) rfl ⟨rfl, Or.inr ⟨rfl, fun z => ((own_ci hc hd).mp z).elim c325 (fun y => y.1.2.elim (fun q => q c327) (fun q => q.2.2 c330))⟩⟩
            · skip
              refine g_icN W0 dQ21_45 (pc' := 48) (feq c330).1 rfl ?_
              refine g_iloadN W0 dQ21_48 (pc' := 49) rfl rfl ?_
              refine g_iloadN W0 dQ21_49 (pc' := 50) rfl rfl ?_
              refine g_sipush W0 dQ21_50 (pc' := 53) rfl (v := 223) rfl ?_
              refine g_iand W0 dQ21_53 (pc' := 54) rfl ?_
              by_cases c331 : ((StrChars.lo8 c1) &&& (223 : Int32)) = ((StrChars.lo8 d1) &&& (223 : Int32))
              · skip
                refine g_icN W0 dQ21_54 (pc' := 57) (teq c331).2 rfl ?_
                refine g_iconst W0 dQ21_57 (pc' := 58) rfl (v := 1) rfl ?_
                refine g_goto W0 dQ21_58 (pc' := 62) (by decide) (by decide) ?_
                exact g_iret W0 dQ21_62 rfl (Or.inr (Or.inl rfl)) rfl ⟨rfl, Or.inl ⟨rfl, (own_ci hc hd).mpr (Or.inr ⟨⟨c326, Or.inr ⟨c328, c329, c330⟩⟩, c331⟩)⟩⟩
              · skip
                refine g_icY W0 dQ21_54 (pc' := 61) (feq c331).2 (by decide) (by decide) ?_
                refine g_iconst W0 dQ21_61 (pc' := 62) rfl (v := 0) rfl ?_
                exact g_iret W0 dQ21_62 rfl (Or.inr (Or.inl rfl)) rfl ⟨rfl, Or.inr ⟨rfl, fun z => ((own_ci hc hd).mp z).elim c325 (fun y => c331 y.2)⟩⟩
      · skip
        refine g_icY W0 dQ21_24 (pc' := 48) (flt c327).2.2.2 (by decide) (by decide) ?_
        refine g_iloadN W0 dQ21_48 (pc' := 49) rfl rfl ?_
        refine g_iloadN W0 dQ21_49 (pc' := 50) rfl rfl ?_
        refine g_sipush W0 dQ21_50 (pc' := 53) rfl (v := 223) rfl ?_
        refine g_iand W0 dQ21_53 (pc' := 54) rfl ?_
        by_cases c332 : ((StrChars.lo8 c1) &&& (223 : Int32)) = ((StrChars.lo8 d1) &&& (223 : Int32))
        · skip
          refine g_icN W0 dQ21_54 (pc' := 57) (teq c332).2 rfl ?_
          refine g_iconst W0 dQ21_57 (pc' := 58) rfl (v := 1) rfl ?_
          refine g_goto W0 dQ21_58 (pc' := 62) (by decide) (by decide) ?_
          exact g_iret W0 dQ21_62 rfl (Or.inr (Or.inl rfl)) rfl ⟨rfl, Or.inl ⟨rfl, (own_ci hc hd).mpr (Or.inr ⟨⟨c326, Or.inl c327⟩, c332⟩)⟩⟩
        · skip
          refine g_icY W0 dQ21_54 (pc' := 61) (feq c332).2 (by decide) (by decide) ?_
          refine g_iconst W0 dQ21_61 (pc' := 62) rfl (v := 0) rfl ?_
          exact g_iret W0 dQ21_62 rfl (Or.inr (Or.inl rfl)) rfl ⟨rfl, Or.inr ⟨rfl, fun z => ((own_ci hc hd).mp z).elim c325 (fun y => c332 y.2)⟩⟩
set_option maxRecDepth 65536 in
set_option maxHeartbeats 4000000 in
theorem con_rci (l : Launch) (Z : State) (a0 : Array Value) (hw : ∀ d ∈ tables_1, d.before a0 Z = true) (hEL : EW Z a0 consts_1) (t u : Addr) (kb ku : ClassId) (cs ds : List Int32) (h0 : Heap) (hcap : cs.length ≤ 4) (hl : ds.length = cs.length) (hb : ∀ c ∈ cs, ¬ c < 0 ∧ ¬ (255 : Int32) < c) (hd : ∀ c ∈ ds, ¬ c < 0 ∧ ¬ (255 : Int32) < c) (K : Arv Z h0 t kb .byte (Int32.ofNat cs.length) (cs.map fun c => Value.int (StrChars.lo8 c)) (.int 0)) (K2 : Arv Z h0 u ku .byte (Int32.ofNat cs.length) (ds.map fun c => Value.int (StrChars.lo8 c)) (.int 0)) :
    Ocon l Z consts_1 (⟨"java/lang/StringLatin1", "regionMatchesCI", "([BI[BII)Z"⟩ : MethodName) jdk_43_method_30_code 8 (some .boolean) [] ({ frames := 1, cells := 0, slots := 0, locals := 14 } : Room) #[(.ref t), (.int (0 : Int32)), (.ref u), (.int (0 : Int32)), (.int (Int32.ofNat cs.length))] h0 [] [] (fun v h _ => h0 = h ∧ ((v = some (.int 1) ∧ ∀ i, i < cs.length → own_fold (cs.getD i 0) = own_fold (ds.getD i 0)) ∨ (v = some (.int 0) ∧ ¬ ∀ i, i < cs.length → own_fold (cs.getD i 0) = own_fold (ds.getD i 0)))) := by
  refine own_con (a0 := a0) hEL (plainFor_of_name pn_java_lang_StringLatin1) ?_
  intro p e s m below meth c T hs W0
  have hcl : (Int32.ofNat cs.length).toNatClampNeg = cs.length := own_clamp (by omega)
  have loop : ∀ (kk i : Nat) (T : State) (s6 s7 : Slot), One s6 → One s7 → i + kk = cs.length → (∀ i', i' < i → own_fold (cs.getD i' 0) = own_fold (ds.getD i' 0)) → Owk p l e ({ frames := 1, cells := 0, slots := 0, locals := 14 } : Room) s m #[(.ref t), (.int (0 : Int32)), (.ref u), (.int (0 : Int32)), (.int (Int32.ofNat cs.length))] below meth c Z a0 consts_1 [] "java/lang/StringLatin1" "regionMatchesCI" jdk_43_method_30_code 8 (some .boolean) T h0 [] 0 0 → Ogo p l e ({ frames := 1, cells := 0, slots := 0, locals := 14 } : Room) s m #[(.ref t), (.int (0 : Int32)), (.ref u), (.int (0 : Int32)), (.int (Int32.ofNat cs.length))] below meth c Z a0 consts_1 [] "java/lang/StringLatin1" "regionMatchesCI" jdk_43_method_30_code 8 (some .boolean) T (mkF m 6 #[.val (.ref t), .val (.int (Int32.ofNat i)), .val (.ref u), .val (.int (Int32.ofNat i)), .val (.int (Int32.ofNat cs.length)), .val (.int (Int32.ofNat cs.length)), s6, s7] []) (fun v h _ => h0 = h ∧ ((v = some (.int 1) ∧ ∀ i, i < cs.length → own_fold (cs.getD i 0) = own_fold (ds.getD i 0)) ∨ (v = some (.int 0) ∧ ¬ ∀ i, i < cs.length → own_fold (cs.getD i 0) = own_fold (ds.getD i 0)))) := by
    intro kk
    induction kk with
    | zero =>
      intro i T s6 s7 h6 h7 hi hq W0
      refine g_iloadN W0 dQ20_6 (pc' := 7) rfl rfl ?_
      refine g_iload W0 dQ20_7 (pc' := 9) rfl rfl ?_
      refine g_icY W0 dQ20_9 (pc' := 43) (flt (own_nlt (by omega) (by omega))).2.1 (by decide) (by decide) ?_
      refine g_iconst W0 dQ20_43 (pc' := 44) rfl (v := 1) rfl ?_
      exact g_iret W0 dQ20_44 rfl (Or.inr (Or.inl rfl)) rfl ⟨rfl, Or.inl ⟨rfl, fun i' h => hq i' (by omega)⟩⟩
    | succ kk ih =>
      intro i T s6 s7 h6 h7 hi hq W0
      have hin : i < cs.length := by omega
      have hin2 : i < ds.length := by omega
      refine g_iloadN W0 dQ20_6 (pc' := 7) rfl rfl ?_
      refine g_iload W0 dQ20_7 (pc' := 9) rfl rfl ?_
      refine g_icN W0 dQ20_9 (pc' := 12) (tlt (own_lt (by omega) hin)).2.1 rfl ?_
      refine g_aloadN W0 dQ20_12 (pc' := 13) rfl rfl rfl ?_
      refine g_iloadN W0 dQ20_13 (pc' := 14) rfl rfl ?_
      refine g_iinc W0 dQ20_14 (pc' := 17) (v := Int32.ofNat (i + 1)) (ls' := #[.val (.ref t), .val (.int (Int32.ofNat (i + 1))), .val (.ref u), .val (.int (Int32.ofNat i)), .val (.int (Int32.ofNat cs.length)), .val (.int (Int32.ofNat cs.length)), s6, s7]) rfl rfl (own_succ i) rfl ?_
      refine g_baload W0 dQ20_17 (pc' := 18) rfl K (i := i) rfl (by rw [hcl]; exact hin) (v := (.int (StrChars.lo8 (cs.getD i 0)))) (StrChars.Road.low_at _ cs i hin) ?_
      refine g_istore W0 dQ20_18 (pc' := 20) (ls' := #[.val (.ref t), .val (.int (Int32.ofNat (i + 1))), .val (.ref u), .val (.int (Int32.ofNat i)), .val (.int (Int32.ofNat cs.length)), .val (.int (Int32.ofNat cs.length)), .val (.int (StrChars.lo8 (cs.getD i 0))), s7]) rfl (XS.store1 (o := s6) rfl h6 rfl) ?_
      refine g_aloadN W0 dQ20_20 (pc' := 21) rfl rfl rfl ?_
      refine g_iloadN W0 dQ20_21 (pc' := 22) rfl rfl ?_
      refine g_iinc W0 dQ20_22 (pc' := 25) (v := Int32.ofNat (i + 1)) (ls' := #[.val (.ref t), .val (.int (Int32.ofNat (i + 1))), .val (.ref u), .val (.int (Int32.ofNat (i + 1))), .val (.int (Int32.ofNat cs.length)), .val (.int (Int32.ofNat cs.length)), .val (.int (StrChars.lo8 (cs.getD i 0))), s7]) rfl rfl (own_succ i) rfl ?_
      refine g_baload W0 dQ20_25 (pc' := 26) rfl K2 (i := i) rfl (by rw [hcl]; exact hin) (v := (.int (StrChars.lo8 (ds.getD i 0)))) (StrChars.Road.low_at _ ds i hin2) ?_
      refine g_istore W0 dQ20_26 (pc' := 28) (ls' := #[.val (.ref t), .val (.int (Int32.ofNat (i + 1))), .val (.ref u), .val (.int (Int32.ofNat (i + 1))), .val (.int (Int32.ofNat cs.length)), .val (.int (Int32.ofNat cs.length)), .val (.int (StrChars.lo8 (cs.getD i 0))), .val (.int (StrChars.lo8 (ds.getD i 0)))]) rfl (XS.store1 (o := s7) rfl h7 rfl) ?_
      refine g_iload W0 dQ20_28 (pc' := 30) rfl rfl ?_
      refine g_iload W0 dQ20_30 (pc' := 32) rfl rfl ?_
      refine g_static W0 dQ20_32 (pc' := 35) rfl (hw _ (List.mem_of_getElem? (i := 120) rfl)) (hw _ (List.mem_of_getElem? (i := 121) rfl)) (hw _ (List.mem_of_getElem? (i := 122) rfl)) (hw _ (List.mem_of_getElem? (i := 123) rfl)) (by decide) (con_cei l Z a0 hw hEL (cs.getD i 0) (ds.getD i 0) (hb _ (own_mem hin)) (hd _ (own_mem hin2)) h0) pd__BB_Z (argsL := [(.int (StrChars.lo8 (cs.getD i 0))), (.int (StrChars.lo8 (ds.getD i 0)))]) (st := []) rfl rfl rfl rfl (by decide) (w := 0) (Nat.le_of_eq rfl) (by decide) (by decide) (by decide) (by simp) (fun q hq => nomatch hq) ?_
      intro v333 T334 h335 S338 q336 W339
      have W337 := W339.sf (SF' := []) (fun _ hx => List.mem_append_right _ hx)
      obtain ⟨rfl, ⟨rfl, qe⟩ | ⟨rfl, qe⟩⟩ := q336
      · skip
        refine g_ifN W337 dQ20_35 (pc' := 38) (feq (by decide : ¬ ((1 : Int32) = (0 : Int32)))).1 rfl ?_
        refine g_goto W337 dQ20_38 (pc' := 6) (by decide) (by decide) ?_
        refine ih (i + 1) T334 _ _ (One.val rfl) (One.val rfl) (by omega) (fun i' hi' => ?_) W337
        by_cases q : i' = i
        · subst q; exact qe
        · exact hq i' (by omega)
      · skip
        refine g_ifY W337 dQ20_35 (pc' := 41) (teq (by decide : (0 : Int32) = (0 : Int32))).1 (by decide) (by decide) ?_
        refine g_iconst W337 dQ20_41 (pc' := 42) rfl (v := 0) rfl ?_
        exact g_iret W337 dQ20_42 rfl (Or.inr (Or.inl rfl)) rfl ⟨rfl, Or.inr ⟨rfl, fun z => qe (z i hin)⟩⟩
  have ef : entryFrame m #[(.ref t), (.int (0 : Int32)), (.ref u), (.int (0 : Int32)), (.int (Int32.ofNat cs.length))] 8 = mkF m 0 #[.val (.ref t), .val (.int (0 : Int32)), .val (.ref u), .val (.int (0 : Int32)), .val (.int (Int32.ofNat cs.length)), .unset, .unset, .unset] [] := by first | rfl | (simp [entryFrame, mkF, argsToLocals, Value.category]; done)
  rw [ef]
  refine g_iloadN W0 dQ20_0 (pc' := 1) rfl rfl ?_
  refine g_iload W0 dQ20_1 (pc' := 3) rfl rfl ?_
  refine g_iadd W0 dQ20_3 (pc' := 4) rfl ?_
  rw [Int32.zero_add]
  refine g_istore W0 dQ20_4 (pc' := 6) rfl (ls' := #[.val (.ref t), .val (.int (0 : Int32)), .val (.ref u), .val (.int (0 : Int32)), .val (.int (Int32.ofNat cs.length)), .val (.int (Int32.ofNat cs.length)), .unset, .unset]) rfl ?_
  exact loop cs.length 0 T .unset .unset One.u One.u (by omega) (fun i' hi' => absurd hi' (Nat.not_lt_zero _)) W0
set_option maxRecDepth 65536 in
set_option maxHeartbeats 4000000 in
theorem con_rgm (l : Launch) (Z : State) (a0 : Array Value) (hw : ∀ d ∈ tables_1, d.before a0 Z = true) (hEL : EW Z a0 consts_1) (x y : Addr) (cs ds : List Int32) (zc : Int32) (SC : Sta Z Z.heap "java/lang/String" "COMPACT_STRINGS" "Z" (.int zc)) (hzc : ¬ zc = 0) (h0 : Heap) (O : Ext Z.heap h0) (S : OLat Z h0 x cs) (S2 : OLat Z h0 y ds) (hcap : cs.length ≤ 4) (hl : ds.length = cs.length) :
    Ocon l Z consts_1 (⟨"java/lang/String", "regionMatches", "(ZILjava/lang/String;II)Z"⟩ : MethodName) jdk_42_method_74_code 9 (some .boolean) [] ({ frames := 2, cells := 0, slots := 0, locals := 36 } : Room) #[(.ref x), (.int (1 : Int32)), (.int (0 : Int32)), (.ref y), (.int (0 : Int32)), (.int (Int32.ofNat cs.length))] h0 [] [] (fun v h _ => h0 = h ∧ ((v = some (.int 1) ∧ ∀ i, i < cs.length → own_fold (cs.getD i 0) = own_fold (ds.getD i 0)) ∨ (v = some (.int 0) ∧ ¬ ∀ i, i < cs.length → own_fold (cs.getD i 0) = own_fold (ds.getD i 0)))) := by
  refine own_con (a0 := a0) hEL (plainFor_of_name pn_java_lang_String) ?_
  intro p e s m below meth c T hs W0
  have ef : entryFrame m #[(.ref x), (.int (1 : Int32)), (.int (0 : Int32)), (.ref y), (.int (0 : Int32)), (.int (Int32.ofNat cs.length))] 9 = mkF m 0 #[.val (.ref x), .val (.int (1 : Int32)), .val (.int (0 : Int32)), .val (.ref y), .val (.int (0 : Int32)), .val (.int (Int32.ofNat cs.length)), .unset, .unset, .unset] [] := by first | rfl | (simp [entryFrame, mkF, argsToLocals, Value.category]; done)
  rw [ef]
  obtain ⟨sE, sB, t, kb, sV, sC, sA⟩ := id S
  obtain ⟨dE, dB, u, ku, dV, dC, dA⟩ := id S2
  refine g_iloadN W0 dQ19_0 (pc' := 1) rfl rfl ?_
  refine g_ifY W0 dQ19_1 (pc' := 15) (feq (by decide : ¬ ((1 : Int32) = (0 : Int32)))).2 (by decide) (by decide) ?_
  refine g_iload W0 dQ19_15 (pc' := 17) rfl rfl ?_
  refine g_ifN W0 dQ19_17 (pc' := 20) (flt (by decide : ¬ ((0 : Int32) < (0 : Int32)))).1 rfl ?_
  refine g_iloadN W0 dQ19_20 (pc' := 21) rfl rfl ?_
  refine g_ifN W0 dQ19_21 (pc' := 24) (flt (by decide : ¬ ((0 : Int32) < (0 : Int32)))).1 rfl ?_
  refine g_iloadN W0 dQ19_24 (pc' := 25) rfl rfl ?_
  refine g_i2l W0 dQ19_25 (pc' := 26) rfl ?_
  refine g_aloadN W0 dQ19_26 (pc' := 27) rfl rfl rfl ?_
  refine g_virtual W0 dQ19_27 (pc' := 30) (C := "java/lang/String") rfl (hw _ (List.mem_of_getElem? (i := 56) rfl)) (hw _ (List.mem_of_getElem? (i := 57) rfl)) (hw _ (List.mem_of_getElem? (i := 59) rfl)) (hw _ (List.mem_of_getElem? (i := 59) rfl)) (hw _ (List.mem_of_getElem? (i := 58) rfl)) (hw _ (List.mem_of_getElem? (i := 7) rfl)) (hw _ (List.mem_of_getElem? (i := 60) rfl)) (by decide) (S).1 (con_len l Z a0 hw hEL x cs zc SC hzc h0 O S) pd___I (argsL := []) (st := [(.long ((0 : Int32)).toInt64)]) rfl rfl rfl rfl (by decide) (w := 2) (Nat.le_of_eq rfl) (by decide) (by decide) (by decide) (by simp) (fun q hq => nomatch hq) ?_
  intro v340 T341 h342 S345 q343 W346
  have W344 := W346.sf (SF' := []) (fun _ hx => List.mem_append_right _ hx)
  obtain ⟨rfl, rfl⟩ := q343
  refine g_i2l W344 dQ19_30 (pc' := 31) rfl ?_
  refine g_iload W344 dQ19_31 (pc' := 33) rfl rfl ?_
  refine g_i2l W344 dQ19_33 (pc' := 34) rfl ?_
  refine g_lsub W344 dQ19_34 (pc' := 35) rfl ?_
  refine g_lcmp W344 dQ19_35 (pc' := 36) rfl ?_
  refine g_ifN W344 dQ19_36 (pc' := 39) (flt (by rw [own_lc]; decide)).2.2.1 rfl ?_
  refine g_iload W344 dQ19_39 (pc' := 41) rfl rfl ?_
  refine g_i2l W344 dQ19_41 (pc' := 42) rfl ?_
  refine g_aloadN W344 dQ19_42 (pc' := 43) rfl rfl rfl ?_
  refine g_virtual W344 dQ19_43 (pc' := 46) (C := "java/lang/String") rfl (hw _ (List.mem_of_getElem? (i := 56) rfl)) (hw _ (List.mem_of_getElem? (i := 57) rfl)) (hw _ (List.mem_of_getElem? (i := 59) rfl)) (hw _ (List.mem_of_getElem? (i := 59) rfl)) (hw _ (List.mem_of_getElem? (i := 58) rfl)) (hw _ (List.mem_of_getElem? (i := 7) rfl)) (hw _ (List.mem_of_getElem? (i := 60) rfl)) (by decide) (S2).1 (con_len l Z a0 hw hEL y ds zc SC hzc h0 O S2) pd___I (argsL := []) (st := [(.long ((0 : Int32)).toInt64)]) rfl rfl rfl rfl (by decide) (w := 2) (Nat.le_of_eq rfl) (by decide) (by decide) (by decide) (by simp) (fun q hq => nomatch hq) ?_
  intro v347 T348 h349 S352 q350 W353
  have W351 := W353.sf (SF' := []) (fun _ hx => List.mem_append_right _ hx)
  obtain ⟨rfl, rfl⟩ := q350
  rw [hl]
  refine g_i2l W351 dQ19_46 (pc' := 47) rfl ?_
  refine g_iload W351 dQ19_47 (pc' := 49) rfl rfl ?_
  refine g_i2l W351 dQ19_49 (pc' := 50) rfl ?_
  refine g_lsub W351 dQ19_50 (pc' := 51) rfl ?_
  refine g_lcmp W351 dQ19_51 (pc' := 52) rfl ?_
  refine g_ifY W351 dQ19_52 (pc' := 57) (flt (by rw [own_lc]; decide)).2.2.2 (by decide) (by decide) ?_
  refine g_aloadN W351 dQ19_57 (pc' := 58) rfl rfl rfl ?_
  refine g_getF W351 dQ19_58 (pc' := 61) rfl (hw _ (List.mem_of_getElem? (i := 32) rfl)) sV ?_
  intro T355 W354
  refine g_astore W354 dQ19_61 (pc' := 63) rfl (ls' := #[.val (.ref x), .val (.int (1 : Int32)), .val (.int (0 : Int32)), .val (.ref y), .val (.int (0 : Int32)), .val (.int (Int32.ofNat cs.length)), .val (.ref t), .unset, .unset]) rfl rfl ?_
  refine g_aloadN W354 dQ19_63 (pc' := 64) rfl rfl rfl ?_
  refine g_getF W354 dQ19_64 (pc' := 67) rfl (hw _ (List.mem_of_getElem? (i := 32) rfl)) dV ?_
  intro T357 W356
  refine g_astore W356 dQ19_67 (pc' := 69) rfl (ls' := #[.val (.ref x), .val (.int (1 : Int32)), .val (.int (0 : Int32)), .val (.ref y), .val (.int (0 : Int32)), .val (.int (Int32.ofNat cs.length)), .val (.ref t), .val (.ref u), .unset]) rfl rfl ?_
  refine g_aloadN W356 dQ19_69 (pc' := 70) rfl rfl rfl ?_
  refine g_virtual W356 dQ19_70 (pc' := 73) (C := "java/lang/String") rfl (hw _ (List.mem_of_getElem? (i := 61) rfl)) (hw _ (List.mem_of_getElem? (i := 62) rfl)) (hw _ (List.mem_of_getElem? (i := 64) rfl)) (hw _ (List.mem_of_getElem? (i := 64) rfl)) (hw _ (List.mem_of_getElem? (i := 63) rfl)) (hw _ (List.mem_of_getElem? (i := 7) rfl)) (hw _ (List.mem_of_getElem? (i := 65) rfl)) (by decide) sE (con_coder l Z a0 hw hEL x zc SC hzc h0 O sC) pd___B (argsL := []) (st := []) rfl rfl rfl rfl (by decide) (w := 0) (Nat.le_of_eq rfl) (by decide) (by decide) (by decide) (by simp) (fun q hq => nomatch hq) ?_
  intro v358 T359 h360 S363 q361 W364
  have W362 := W364.sf (SF' := []) (fun _ hx => List.mem_append_right _ hx)
  obtain ⟨rfl, rfl⟩ := q361
  refine g_istore W362 dQ19_73 (pc' := 75) rfl (ls' := #[.val (.ref x), .val (.int (1 : Int32)), .val (.int (0 : Int32)), .val (.ref y), .val (.int (0 : Int32)), .val (.int (Int32.ofNat cs.length)), .val (.ref t), .val (.ref u), .val (.int (0 : Int32))]) rfl ?_
  refine g_iload W362 dQ19_75 (pc' := 77) rfl rfl ?_
  refine g_aloadN W362 dQ19_77 (pc' := 78) rfl rfl rfl ?_
  refine g_virtual W362 dQ19_78 (pc' := 81) (C := "java/lang/String") rfl (hw _ (List.mem_of_getElem? (i := 61) rfl)) (hw _ (List.mem_of_getElem? (i := 62) rfl)) (hw _ (List.mem_of_getElem? (i := 64) rfl)) (hw _ (List.mem_of_getElem? (i := 64) rfl)) (hw _ (List.mem_of_getElem? (i := 63) rfl)) (hw _ (List.mem_of_getElem? (i := 7) rfl)) (hw _ (List.mem_of_getElem? (i := 65) rfl)) (by decide) dE (con_coder l Z a0 hw hEL y zc SC hzc h0 O dC) pd___B (argsL := []) (st := [(.int (0 : Int32))]) rfl rfl rfl rfl (by decide) (w := 1) (Nat.le_of_eq rfl) (by decide) (by decide) (by decide) (by simp) (fun q hq => nomatch hq) ?_
  intro v365 T366 h367 S370 q368 W371
  have W369 := W371.sf (SF' := []) (fun _ hx => List.mem_append_right _ hx)
  obtain ⟨rfl, rfl⟩ := q368
  refine g_icN W369 dQ19_81 (pc' := 84) (teq (by decide : (0 : Int32) = (0 : Int32))).2 rfl ?_
  refine g_iload W369 dQ19_84 (pc' := 86) rfl rfl ?_
  refine g_ifN W369 dQ19_86 (pc' := 89) (teq (by decide : (0 : Int32) = (0 : Int32))).2 rfl ?_
  refine g_aload W369 dQ19_89 (pc' := 91) rfl rfl rfl ?_
  refine g_iloadN W369 dQ19_91 (pc' := 92) rfl rfl ?_
  refine g_aload W369 dQ19_92 (pc' := 94) rfl rfl rfl ?_
  refine g_iload W369 dQ19_94 (pc' := 96) rfl rfl ?_
  refine g_iload W369 dQ19_96 (pc' := 98) rfl rfl ?_
  refine g_static W369 dQ19_98 (pc' := 101) rfl (hw _ (List.mem_of_getElem? (i := 105) rfl)) (hw _ (List.mem_of_getElem? (i := 106) rfl)) (hw _ (List.mem_of_getElem? (i := 68) rfl)) (hw _ (List.mem_of_getElem? (i := 107) rfl)) (by decide) (con_rci l Z a0 hw hEL t u kb ku cs ds h0 hcap hl sB dB sA (by rw [← hl]; exact dA)) pd___BI_BII_Z (argsL := [(.ref t), (.int (0 : Int32)), (.ref u), (.int (0 : Int32)), (.int (Int32.ofNat cs.length))]) (st := []) rfl rfl rfl rfl (by decide) (w := 0) (Nat.le_of_eq rfl) (by decide) (by decide) (by decide) (by simp) (fun q hq => nomatch hq) ?_
  intro v372 T373 h374 S377 q375 W378
  have W376 := W378.sf (SF' := []) (fun _ hx => List.mem_append_right _ hx)
  obtain ⟨rfl, ⟨rfl, e379⟩ | ⟨rfl, e379⟩⟩ := q375
  · skip
    refine g_goto W376 dQ19_101 (pc' := 116) (by decide) (by decide) ?_
    exact g_iret W376 dQ19_116 rfl (Or.inr (Or.inl rfl)) rfl ⟨rfl, Or.inl ⟨rfl, e379⟩⟩
  · skip
    refine g_goto W376 dQ19_101 (pc' := 116) (by decide) (by decide) ?_
    exact g_iret W376 dQ19_116 rfl (Or.inr (Or.inl rfl)) rfl ⟨rfl, Or.inr ⟨rfl, e379⟩⟩
set_option maxRecDepth 65536 in
set_option maxHeartbeats 4000000 in
theorem con_eic (l : Launch) (Z : State) (a0 : Array Value) (hw : ∀ d ∈ tables_1, d.before a0 Z = true) (hEL : EW Z a0 consts_1) (x y : Addr) (cs ds : List Int32) (zc : Int32) (SC : Sta Z Z.heap "java/lang/String" "COMPACT_STRINGS" "Z" (.int zc)) (hzc : ¬ zc = 0) (h0 : Heap) (O : Ext Z.heap h0) (S : OLat Z h0 x cs) (S2 : OLat Z h0 y ds) (hcap : cs.length ≤ 4) (hcap2 : ds.length ≤ 4) :
    Ocon l Z consts_1 (⟨"java/lang/String", "equalsIgnoreCase", "(Ljava/lang/String;)Z"⟩ : MethodName) jdk_42_method_70_code 2 (some .boolean) [] ({ frames := 3, cells := 0, slots := 0, locals := 60 } : Room) #[(.ref x), (.ref y)] h0 [] [] (fun v h _ => h0 = h ∧ ((v = some (.int 1) ∧ OCI cs ds) ∨ (v = some (.int 0) ∧ ¬ OCI cs ds))) := by
  refine own_con (a0 := a0) hEL (plainFor_of_name pn_java_lang_String) ?_
  intro p e s m below meth c T hs W0
  have ef : entryFrame m #[(.ref x), (.ref y)] 2 = mkF m 0 #[.val (.ref x), .val (.ref y)] [] := by first | rfl | (simp [entryFrame, mkF, argsToLocals, Value.category]; done)
  rw [ef]
  obtain ⟨sE, sB, t, kb, sV, sC, sA⟩ := id S
  obtain ⟨dE, dB, u, ku, dV, dC, dA⟩ := id S2
  refine g_aloadN W0 dQ18_0 (pc' := 1) rfl rfl rfl ?_
  refine g_aloadN W0 dQ18_1 (pc' := 2) rfl rfl rfl ?_
  by_cases he : x = y
  · skip
    have hcd : cs = ds := (show OLat Z h0 x ds from he ▸ S2).inj S (by omega) (by omega) |>.symm
    refine g_acN W0 dQ18_2 (pc' := 5) rfl rfl (by simp [XT.acmp, he]) rfl ?_
    refine g_iconst W0 dQ18_5 (pc' := 6) rfl (v := 1) rfl ?_
    refine g_goto W0 dQ18_6 (pc' := 44) (by decide) (by decide) ?_
    exact g_iret W0 dQ18_44 rfl (Or.inr (Or.inl rfl)) rfl ⟨rfl, Or.inl ⟨rfl, by rw [hcd]; exact ⟨rfl, fun _ _ => rfl⟩⟩⟩
  · skip
    refine g_acY W0 dQ18_2 (pc' := 9) rfl rfl (by simp [XT.acmp, he]) (by decide) (by decide) ?_
    refine g_aloadN W0 dQ18_9 (pc' := 10) rfl rfl rfl ?_
    refine g_nullN W0 dQ18_10 (pc' := 13) rfl ?_
    refine g_aloadN W0 dQ18_13 (pc' := 14) rfl rfl rfl ?_
    refine g_virtual W0 dQ18_14 (pc' := 17) (C := "java/lang/String") rfl (hw _ (List.mem_of_getElem? (i := 56) rfl)) (hw _ (List.mem_of_getElem? (i := 57) rfl)) (hw _ (List.mem_of_getElem? (i := 59) rfl)) (hw _ (List.mem_of_getElem? (i := 59) rfl)) (hw _ (List.mem_of_getElem? (i := 58) rfl)) (hw _ (List.mem_of_getElem? (i := 7) rfl)) (hw _ (List.mem_of_getElem? (i := 60) rfl)) (by decide) (S2).1 (con_len l Z a0 hw hEL y ds zc SC hzc h0 O S2) pd___I (argsL := []) (st := []) rfl rfl rfl rfl (by decide) (w := 0) (Nat.le_of_eq rfl) (by decide) (by decide) (by decide) (by simp) (fun q hq => nomatch hq) ?_
    intro v380 T381 h382 S385 q383 W386
    have W384 := W386.sf (SF' := []) (fun _ hx => List.mem_append_right _ hx)
    obtain ⟨rfl, rfl⟩ := q383
    refine g_aloadN W384 dQ18_17 (pc' := 18) rfl rfl rfl ?_
    refine g_virtual W384 dQ18_18 (pc' := 21) (C := "java/lang/String") rfl (hw _ (List.mem_of_getElem? (i := 56) rfl)) (hw _ (List.mem_of_getElem? (i := 57) rfl)) (hw _ (List.mem_of_getElem? (i := 59) rfl)) (hw _ (List.mem_of_getElem? (i := 59) rfl)) (hw _ (List.mem_of_getElem? (i := 58) rfl)) (hw _ (List.mem_of_getElem? (i := 7) rfl)) (hw _ (List.mem_of_getElem? (i := 60) rfl)) (by decide) (S).1 (con_len l Z a0 hw hEL x cs zc SC hzc h0 O S) pd___I (argsL := []) (st := [(.int (Int32.ofNat ds.length))]) rfl rfl rfl rfl (by decide) (w := 1) (Nat.le_of_eq rfl) (by decide) (by decide) (by decide) (by simp) (fun q hq => nomatch hq) ?_
    intro v387 T388 h389 S392 q390 W393
    have W391 := W393.sf (SF' := []) (fun _ hx => List.mem_append_right _ hx)
    obtain ⟨rfl, rfl⟩ := q390
    by_cases c394 : (Int32.ofNat ds.length) = (Int32.ofNat cs.length)
    · skip
      refine g_icN W391 dQ18_21 (pc' := 24) (teq c394).2 rfl ?_
      refine g_aloadN W391 dQ18_24 (pc' := 25) rfl rfl rfl ?_
      refine g_iconst W391 dQ18_25 (pc' := 26) rfl (v := 1) rfl ?_
      refine g_iconst W391 dQ18_26 (pc' := 27) rfl (v := 0) rfl ?_
      refine g_aloadN W391 dQ18_27 (pc' := 28) rfl rfl rfl ?_
      refine g_iconst W391 dQ18_28 (pc' := 29) rfl (v := 0) rfl ?_
      refine g_aloadN W391 dQ18_29 (pc' := 30) rfl rfl rfl ?_
      refine g_virtual W391 dQ18_30 (pc' := 33) (C := "java/lang/String") rfl (hw _ (List.mem_of_getElem? (i := 56) rfl)) (hw _ (List.mem_of_getElem? (i := 57) rfl)) (hw _ (List.mem_of_getElem? (i := 59) rfl)) (hw _ (List.mem_of_getElem? (i := 59) rfl)) (hw _ (List.mem_of_getElem? (i := 58) rfl)) (hw _ (List.mem_of_getElem? (i := 7) rfl)) (hw _ (List.mem_of_getElem? (i := 60) rfl)) (by decide) (S).1 (con_len l Z a0 hw hEL x cs zc SC hzc h0 O S) pd___I (argsL := []) (st := [(.int (0 : Int32)), (.ref y), (.int (0 : Int32)), (.int (1 : Int32)), (.ref x)]) rfl rfl rfl rfl (by decide) (w := 5) (Nat.le_of_eq rfl) (by decide) (by decide) (by decide) (by simp) (fun q hq => nomatch hq) ?_
      intro v395 T396 h397 S400 q398 W401
      have W399 := W401.sf (SF' := []) (fun _ hx => List.mem_append_right _ hx)
      obtain ⟨rfl, rfl⟩ := q398
      have hl : ds.length = cs.length := own_inj (by omega) (by omega) c394
      refine g_virtual W399 dQ18_33 (pc' := 36) (C := "java/lang/String") rfl (hw _ (List.mem_of_getElem? (i := 100) rfl)) (hw _ (List.mem_of_getElem? (i := 101) rfl)) (hw _ (List.mem_of_getElem? (i := 103) rfl)) (hw _ (List.mem_of_getElem? (i := 103) rfl)) (hw _ (List.mem_of_getElem? (i := 102) rfl)) (hw _ (List.mem_of_getElem? (i := 7) rfl)) (hw _ (List.mem_of_getElem? (i := 104) rfl)) (by decide) sE (con_rgm l Z a0 hw hEL x y cs ds zc SC hzc h0 O S S2 hcap hl) pd__ZILjava_lang_String_II_Z (argsL := [(.int (1 : Int32)), (.int (0 : Int32)), (.ref y), (.int (0 : Int32)), (.int (Int32.ofNat cs.length))]) (st := []) rfl rfl rfl rfl (by decide) (w := 0) (Nat.le_of_eq rfl) (by decide) (by decide) (by decide) (by simp) (fun q hq => nomatch hq) ?_
      intro v402 T403 h404 S407 q405 W408
      have W406 := W408.sf (SF' := []) (fun _ hx => List.mem_append_right _ hx)
      obtain ⟨rfl, ⟨rfl, e409⟩ | ⟨rfl, e409⟩⟩ := q405
      · skip
        refine g_ifN W406 dQ18_36 (pc' := 39) (feq (by decide : ¬ ((1 : Int32) = (0 : Int32)))).1 rfl ?_
        refine g_iconst W406 dQ18_39 (pc' := 40) rfl (v := 1) rfl ?_
        refine g_goto W406 dQ18_40 (pc' := 44) (by decide) (by decide) ?_
        exact g_iret W406 dQ18_44 rfl (Or.inr (Or.inl rfl)) rfl ⟨rfl, Or.inl ⟨rfl, hl.symm, e409⟩⟩
      · skip
        refine g_ifY W406 dQ18_36 (pc' := 43) (teq (by decide : (0 : Int32) = (0 : Int32))).1 (by decide) (by decide) ?_
        refine g_iconst W406 dQ18_43 (pc' := 44) rfl (v := 0) rfl ?_
        exact g_iret W406 dQ18_44 rfl (Or.inr (Or.inl rfl)) rfl ⟨rfl, Or.inr ⟨rfl, fun z => e409 z.2⟩⟩
    · skip
      refine g_icY W391 dQ18_21 (pc' := 43) (feq c394).2 (by decide) (by decide) ?_
      refine g_iconst W391 dQ18_43 (pc' := 44) rfl (v := 0) rfl ?_
      exact g_iret W391 dQ18_44 rfl (Or.inr (Or.inl rfl)) rfl ⟨rfl, Or.inr ⟨rfl, fun z => c394 (by rw [z.1])⟩⟩
set_option maxRecDepth 65536 in
set_option maxHeartbeats 4000000 in
theorem con_eic0 (l : Launch) (Z : State) (a0 : Array Value) (hw : ∀ d ∈ tables_1, d.before a0 Z = true) (hEL : EW Z a0 consts_1) (x : Addr) (h0 : Heap) :
    Ocon l Z consts_1 (⟨"java/lang/String", "equalsIgnoreCase", "(Ljava/lang/String;)Z"⟩ : MethodName) jdk_42_method_70_code 2 (some .boolean) [] ({ frames := 3, cells := 0, slots := 0, locals := 60 } : Room) #[(.ref x), .null] h0 [] [] (fun v h _ => v = some (.int 0) ∧ h0 = h) := by
  refine own_con (a0 := a0) hEL (plainFor_of_name pn_java_lang_String) ?_
  intro p e s m below meth c T hs W0
  have ef : entryFrame m #[(.ref x), .null] 2 = mkF m 0 #[.val (.ref x), .val .null] [] := by first | rfl | (simp [entryFrame, mkF, argsToLocals, Value.category]; done)
  rw [ef]
  refine g_aloadN W0 dQ18_0 (pc' := 1) rfl rfl rfl ?_
  refine g_aloadN W0 dQ18_1 (pc' := 2) rfl rfl rfl ?_
  refine g_acY W0 dQ18_2 (pc' := 9) rfl rfl (by simp [XT.acmp]) (by decide) (by decide) ?_
  refine g_aloadN W0 dQ18_9 (pc' := 10) rfl rfl rfl ?_
  refine g_nullY W0 dQ18_10 (pc' := 43) (by decide) (by decide) ?_
  refine g_iconst W0 dQ18_43 (pc' := 44) rfl (v := 0) rfl ?_
  exact g_iret W0 dQ18_44 rfl (Or.inr (Or.inl rfl)) rfl ⟨rfl, rfl⟩
theorem pn_com_example_skyhold_skyhold_SbiBody : plainName "com/example/skyhold/skyhold/SbiBody" = true := by first | (simp [plainName, overriddenIn]; done) | decide +kernel
set_option maxRecDepth 65536 in
set_option maxHeartbeats 4000000 in
theorem con_it00 (l : Launch) (Z : State) (a0 : Array Value) (hw : ∀ d ∈ tables_1, d.before a0 Z = true) (hEL : EW Z a0 consts_1) (zc : Int32) (SC : Sta Z Z.heap "java/lang/String" "COMPACT_STRINGS" "Z" (.int zc)) (hzc : ¬ zc = 0) (fm : Value) (hfm : fm.isRef = true) (SF1 : Sta Z Z.heap "jdk/internal/util/Preconditions" "SIOOBE_FORMATTER" "Ljava/util/function/BiFunction;" fm) (h0 : Heap) (O : Ext Z.heap h0) :
    Ocon l Z consts_1 (⟨"com/example/skyhold/skyhold/SbiBody", "isType", "(Ljava/lang/String;Ljava/lang/String;)Z"⟩ : MethodName) prog_8_method_3_code 4 (some .boolean) [] ({ frames := 6, cells := 4, slots := 16, locals := 100 } : Room) #[.null, .null] h0 [] [] (fun v h _ => Ext h0 h ∧ v = some (.int 0)) := by
  refine own_con (a0 := a0) hEL (plainFor_of_name pn_com_example_skyhold_skyhold_SbiBody) ?_
  intro p e s m below meth c T hs W0
  have ef : entryFrame m #[.null, .null] 4 = mkF m 0 #[.val .null, .val .null, .unset, .unset] [] := by first | rfl | (simp [entryFrame, mkF, argsToLocals, Value.category]; done)
  rw [ef]
  refine g_aloadN W0 dQ6_0 (pc' := 1) rfl rfl rfl ?_
  refine g_nnN W0 dQ6_1 (pc' := 4) rfl ?_
  refine g_iconst W0 dQ6_4 (pc' := 5) rfl (v := 0) rfl ?_
  exact g_iret W0 dQ6_5 rfl (Or.inr (Or.inl rfl)) rfl ⟨own_ext_rf _, rfl⟩
set_option maxRecDepth 65536 in
set_option maxHeartbeats 4000000 in
theorem con_it01 (l : Launch) (Z : State) (a0 : Array Value) (hw : ∀ d ∈ tables_1, d.before a0 Z = true) (hEL : EW Z a0 consts_1) (zc : Int32) (SC : Sta Z Z.heap "java/lang/String" "COMPACT_STRINGS" "Z" (.int zc)) (hzc : ¬ zc = 0) (fm : Value) (hfm : fm.isRef = true) (SF1 : Sta Z Z.heap "jdk/internal/util/Preconditions" "SIOOBE_FORMATTER" "Ljava/util/function/BiFunction;" fm) (h0 : Heap) (O : Ext Z.heap h0) (y : Addr) :
    Ocon l Z consts_1 (⟨"com/example/skyhold/skyhold/SbiBody", "isType", "(Ljava/lang/String;Ljava/lang/String;)Z"⟩ : MethodName) prog_8_method_3_code 4 (some .boolean) [] ({ frames := 6, cells := 4, slots := 16, locals := 100 } : Room) #[.null, (.ref y)] h0 [] [] (fun v h _ => Ext h0 h ∧ v = some (.int 0)) := by
  refine own_con (a0 := a0) hEL (plainFor_of_name pn_com_example_skyhold_skyhold_SbiBody) ?_
  intro p e s m below meth c T hs W0
  have ef : entryFrame m #[.null, (.ref y)] 4 = mkF m 0 #[.val .null, .val (.ref y), .unset, .unset] [] := by first | rfl | (simp [entryFrame, mkF, argsToLocals, Value.category]; done)
  rw [ef]
  refine g_aloadN W0 dQ6_0 (pc' := 1) rfl rfl rfl ?_
  refine g_nnN W0 dQ6_1 (pc' := 4) rfl ?_
  refine g_iconst W0 dQ6_4 (pc' := 5) rfl (v := 0) rfl ?_
  exact g_iret W0 dQ6_5 rfl (Or.inr (Or.inl rfl)) rfl ⟨own_ext_rf _, rfl⟩
set_option maxRecDepth 65536 in
set_option maxHeartbeats 4000000 in
theorem con_it10 (l : Launch) (Z : State) (a0 : Array Value) (hw : ∀ d ∈ tables_1, d.before a0 Z = true) (hEL : EW Z a0 consts_1) (zc : Int32) (SC : Sta Z Z.heap "java/lang/String" "COMPACT_STRINGS" "Z" (.int zc)) (hzc : ¬ zc = 0) (fm : Value) (hfm : fm.isRef = true) (SF1 : Sta Z Z.heap "jdk/internal/util/Preconditions" "SIOOBE_FORMATTER" "Ljava/util/function/BiFunction;" fm) (h0 : Heap) (O : Ext Z.heap h0) (x : Addr) (cs : List Int32) (S : OLat Z h0 x cs) (hcap : cs.length ≤ 4) :
    Ocon l Z consts_1 (⟨"com/example/skyhold/skyhold/SbiBody", "isType", "(Ljava/lang/String;Ljava/lang/String;)Z"⟩ : MethodName) prog_8_method_3_code 4 (some .boolean) [] ({ frames := 6, cells := 4, slots := 16, locals := 100 } : Room) #[(.ref x), .null] h0 [] [] (fun v h _ => Ext h0 h ∧ v = some (.int 0)) := by
  refine own_con (a0 := a0) hEL (plainFor_of_name pn_com_example_skyhold_skyhold_SbiBody) ?_
  intro p e s m below meth c T hs W0
  have ef : entryFrame m #[(.ref x), .null] 4 = mkF m 0 #[.val (.ref x), .val .null, .unset, .unset] [] := by first | rfl | (simp [entryFrame, mkF, argsToLocals, Value.category]; done)
  rw [ef]
  refine g_aloadN W0 dQ6_0 (pc' := 1) rfl rfl rfl ?_
  refine g_nnY W0 dQ6_1 (pc' := 6) (by decide) (by decide) ?_
  refine g_aloadN W0 dQ6_6 (pc' := 7) rfl rfl rfl ?_
  refine g_bipush W0 dQ6_7 (pc' := 9) rfl (v := 59) rfl ?_
  refine g_virtual W0 dQ6_9 (pc' := 12) (C := "java/lang/String") rfl (hw _ (List.mem_of_getElem? (i := 41) rfl)) (hw _ (List.mem_of_getElem? (i := 42) rfl)) (hw _ (List.mem_of_getElem? (i := 44) rfl)) (hw _ (List.mem_of_getElem? (i := 44) rfl)) (hw _ (List.mem_of_getElem? (i := 43) rfl)) (hw _ (List.mem_of_getElem? (i := 7) rfl)) (hw _ (List.mem_of_getElem? (i := 45) rfl)) (by decide) S.1 (con_ix1 l Z a0 hw hEL x cs zc SC hzc h0 O S hcap) pd__I_I (argsL := [(.int (59 : Int32))]) (st := []) rfl rfl rfl rfl (by decide) (w := 0) (Nat.le_of_eq rfl) (by decide) (by decide) (by decide) (by simp) (fun q hq => nomatch hq) ?_
  intro v410 T411 h412 S415 q413 W416
  have W414 := W416.sf (SF' := []) (fun _ hx => List.mem_append_right _ hx)
  obtain ⟨r, rfl, rfl, ⟨rfl, hf⟩ | ⟨rfl, hf⟩⟩ := q413
  · skip
    have S1 : OLat Z h0 x (cs.take (own_first own_p59 cs)) := by rw [hf, List.take_length]; exact S
    have X1 := own_ext_rf h0
    refine g_istoreN W414 dQ6_12 (pc' := 13) rfl (ls' := #[.val (.ref x), .val .null, .val (.int ((-1) : Int32)), .unset]) rfl ?_
    refine g_iloadN W414 dQ6_13 (pc' := 14) rfl rfl ?_
    refine g_ifN W414 dQ6_14 (pc' := 17) (tlt (by decide : ((-1) : Int32) < (0 : Int32))).2.1 rfl ?_
    refine g_aloadN W414 dQ6_17 (pc' := 18) rfl rfl rfl ?_
    refine g_goto W414 dQ6_18 (pc' := 27) (by decide) (by decide) ?_
    refine g_astoreN W414 dQ6_27 (pc' := 28) rfl (ls' := #[.val (.ref x), .val .null, .val (.int ((-1) : Int32)), .val (.ref x)]) rfl rfl ?_
    refine g_aloadN W414 dQ6_28 (pc' := 29) rfl rfl rfl ?_
    have hct : (cs.take (own_first own_p59 cs)).length ≤ 4 := by rw [List.length_take]; omega
    have O1 := own_ext_tr O X1
    refine g_virtual W414 dQ6_29 (pc' := 32) (C := "java/lang/String") rfl (hw _ (List.mem_of_getElem? (i := 83) rfl)) (hw _ (List.mem_of_getElem? (i := 84) rfl)) (hw _ (List.mem_of_getElem? (i := 86) rfl)) (hw _ (List.mem_of_getElem? (i := 86) rfl)) (hw _ (List.mem_of_getElem? (i := 85) rfl)) (hw _ (List.mem_of_getElem? (i := 7) rfl)) (hw _ (List.mem_of_getElem? (i := 87) rfl)) (by decide) S1.1 (con_trm l Z a0 hw hEL x (cs.take (own_first own_p59 cs)) zc SC hzc h0 O1 S1 hct) pd___Ljava_lang_String_ (argsL := []) (st := []) rfl rfl rfl rfl (by decide) (w := 0) (Nat.le_of_eq rfl) (by decide) (by decide) (by decide) (by simp) (fun q hq => nomatch hq) ?_
    intro v417 T418 h419 S422 q420 W423
    have W421 := W423.sf (SF' := []) (fun _ hx => List.mem_append_right _ hx)
    obtain ⟨x2, rfl, X2, S2⟩ := q420
    have hc2 : (own_tr (cs.take (own_first own_p59 cs))).length ≤ 4 := by rw [own_tr, List.length_take, List.length_drop]; omega
    have X3 := own_ext_tr X1 X2
    have O3 := own_ext_tr O X3
    refine g_aloadN W421 dQ6_32 (pc' := 33) rfl rfl rfl ?_
    refine g_virtual W421 dQ6_33 (pc' := 36) (C := "java/lang/String") rfl (hw _ (List.mem_of_getElem? (i := 95) rfl)) (hw _ (List.mem_of_getElem? (i := 96) rfl)) (hw _ (List.mem_of_getElem? (i := 98) rfl)) (hw _ (List.mem_of_getElem? (i := 98) rfl)) (hw _ (List.mem_of_getElem? (i := 97) rfl)) (hw _ (List.mem_of_getElem? (i := 7) rfl)) (hw _ (List.mem_of_getElem? (i := 99) rfl)) (by decide) S2.1 (con_eic0 l Z a0 hw hEL x2 h419) pd__Ljava_lang_String__Z (argsL := [.null]) (st := []) rfl rfl rfl rfl (by decide) (w := 0) (Nat.le_of_eq rfl) (by decide) (by decide) (by decide) (by simp) (fun q hq => nomatch hq) ?_
    intro v424 T425 h426 S429 q427 W430
    have W428 := W430.sf (SF' := []) (fun _ hx => List.mem_append_right _ hx)
    obtain ⟨rfl, rfl⟩ := q427
    exact g_iret W428 dQ6_36 rfl (Or.inr (Or.inl rfl)) rfl ⟨X3, rfl⟩
  · skip
    refine g_istoreN W414 dQ6_12 (pc' := 13) rfl (ls' := #[.val (.ref x), .val .null, .val (.int (Int32.ofNat (own_first own_p59 cs))), .unset]) rfl ?_
    refine g_iloadN W414 dQ6_13 (pc' := 14) rfl rfl ?_
    refine g_ifY W414 dQ6_14 (pc' := 21) (flt (own_nn (by have := own_first_le own_p59 cs; omega))).2.1 (by decide) (by decide) ?_
    refine g_aloadN W414 dQ6_21 (pc' := 22) rfl rfl rfl ?_
    refine g_iconst W414 dQ6_22 (pc' := 23) rfl (v := 0) rfl ?_
    refine g_iloadN W414 dQ6_23 (pc' := 24) rfl rfl ?_
    refine g_virtual W414 dQ6_24 (pc' := 27) (C := "java/lang/String") rfl (hw _ (List.mem_of_getElem? (i := 146) rfl)) (hw _ (List.mem_of_getElem? (i := 147) rfl)) (hw _ (List.mem_of_getElem? (i := 149) rfl)) (hw _ (List.mem_of_getElem? (i := 149) rfl)) (hw _ (List.mem_of_getElem? (i := 148) rfl)) (hw _ (List.mem_of_getElem? (i := 7) rfl)) (hw _ (List.mem_of_getElem? (i := 150) rfl)) (by decide) S.1 (con_sub l Z a0 hw hEL x cs (own_first own_p59 cs) zc SC hzc fm hfm SF1 h0 O S hcap hf) pd__II_Ljava_lang_String_ (argsL := [(.int (0 : Int32)), (.int (Int32.ofNat (own_first own_p59 cs)))]) (st := []) rfl rfl rfl rfl (by decide) (w := 0) (Nat.le_of_eq rfl) (by decide) (by decide) (by decide) (by simp) (fun q hq => nomatch hq) ?_
    intro v431 T432 h433 S436 q434 W437
    have W435 := W437.sf (SF' := []) (fun _ hx => List.mem_append_right _ hx)
    obtain ⟨x1, rfl, X1, S1⟩ := q434
    refine g_astoreN W435 dQ6_27 (pc' := 28) rfl (ls' := #[.val (.ref x), .val .null, .val (.int (Int32.ofNat (own_first own_p59 cs))), .val (.ref x1)]) rfl rfl ?_
    refine g_aloadN W435 dQ6_28 (pc' := 29) rfl rfl rfl ?_
    have hct : (cs.take (own_first own_p59 cs)).length ≤ 4 := by rw [List.length_take]; omega
    have O1 := own_ext_tr O X1
    refine g_virtual W435 dQ6_29 (pc' := 32) (C := "java/lang/String") rfl (hw _ (List.mem_of_getElem? (i := 83) rfl)) (hw _ (List.mem_of_getElem? (i := 84) rfl)) (hw _ (List.mem_of_getElem? (i := 86) rfl)) (hw _ (List.mem_of_getElem? (i := 86) rfl)) (hw _ (List.mem_of_getElem? (i := 85) rfl)) (hw _ (List.mem_of_getElem? (i := 7) rfl)) (hw _ (List.mem_of_getElem? (i := 87) rfl)) (by decide) S1.1 (con_trm l Z a0 hw hEL x1 (cs.take (own_first own_p59 cs)) zc SC hzc h433 O1 S1 hct) pd___Ljava_lang_String_ (argsL := []) (st := []) rfl rfl rfl rfl (by decide) (w := 0) (Nat.le_of_eq rfl) (by decide) (by decide) (by decide) (by simp) (fun q hq => nomatch hq) ?_
    intro v438 T439 h440 S443 q441 W444
    have W442 := W444.sf (SF' := []) (fun _ hx => List.mem_append_right _ hx)
    obtain ⟨x2, rfl, X2, S2⟩ := q441
    have hc2 : (own_tr (cs.take (own_first own_p59 cs))).length ≤ 4 := by rw [own_tr, List.length_take, List.length_drop]; omega
    have X3 := own_ext_tr X1 X2
    have O3 := own_ext_tr O X3
    refine g_aloadN W442 dQ6_32 (pc' := 33) rfl rfl rfl ?_
    refine g_virtual W442 dQ6_33 (pc' := 36) (C := "java/lang/String") rfl (hw _ (List.mem_of_getElem? (i := 95) rfl)) (hw _ (List.mem_of_getElem? (i := 96) rfl)) (hw _ (List.mem_of_getElem? (i := 98) rfl)) (hw _ (List.mem_of_getElem? (i := 98) rfl)) (hw _ (List.mem_of_getElem? (i := 97) rfl)) (hw _ (List.mem_of_getElem? (i := 7) rfl)) (hw _ (List.mem_of_getElem? (i := 99) rfl)) (by decide) S2.1 (con_eic0 l Z a0 hw hEL x2 h440) pd__Ljava_lang_String__Z (argsL := [.null]) (st := []) rfl rfl rfl rfl (by decide) (w := 0) (Nat.le_of_eq rfl) (by decide) (by decide) (by decide) (by simp) (fun q hq => nomatch hq) ?_
    intro v445 T446 h447 S450 q448 W451
    have W449 := W451.sf (SF' := []) (fun _ hx => List.mem_append_right _ hx)
    obtain ⟨rfl, rfl⟩ := q448
    exact g_iret W449 dQ6_36 rfl (Or.inr (Or.inl rfl)) rfl ⟨X3, rfl⟩
set_option maxRecDepth 65536 in
set_option maxHeartbeats 4000000 in
theorem con_it (l : Launch) (Z : State) (a0 : Array Value) (hw : ∀ d ∈ tables_1, d.before a0 Z = true) (hEL : EW Z a0 consts_1) (zc : Int32) (SC : Sta Z Z.heap "java/lang/String" "COMPACT_STRINGS" "Z" (.int zc)) (hzc : ¬ zc = 0) (fm : Value) (hfm : fm.isRef = true) (SF1 : Sta Z Z.heap "jdk/internal/util/Preconditions" "SIOOBE_FORMATTER" "Ljava/util/function/BiFunction;" fm) (h0 : Heap) (O : Ext Z.heap h0) (x : Addr) (cs : List Int32) (S : OLat Z h0 x cs) (hcap : cs.length ≤ 4) (y : Addr) (ds : List Int32) (SY : OLat Z h0 y ds) (hcap2 : ds.length ≤ 4) :
    Ocon l Z consts_1 (⟨"com/example/skyhold/skyhold/SbiBody", "isType", "(Ljava/lang/String;Ljava/lang/String;)Z"⟩ : MethodName) prog_8_method_3_code 4 (some .boolean) [] ({ frames := 6, cells := 4, slots := 16, locals := 100 } : Room) #[(.ref x), (.ref y)] h0 [] [] (fun v h _ => Ext h0 h ∧ ((v = some (.int 1) ∧ OCI (own_tr (cs.take (own_first own_p59 cs))) ds) ∨ (v = some (.int 0) ∧ ¬ OCI (own_tr (cs.take (own_first own_p59 cs))) ds))) := by
  refine own_con (a0 := a0) hEL (plainFor_of_name pn_com_example_skyhold_skyhold_SbiBody) ?_
  intro p e s m below meth c T hs W0
  have ef : entryFrame m #[(.ref x), (.ref y)] 4 = mkF m 0 #[.val (.ref x), .val (.ref y), .unset, .unset] [] := by first | rfl | (simp [entryFrame, mkF, argsToLocals, Value.category]; done)
  rw [ef]
  refine g_aloadN W0 dQ6_0 (pc' := 1) rfl rfl rfl ?_
  refine g_nnY W0 dQ6_1 (pc' := 6) (by decide) (by decide) ?_
  refine g_aloadN W0 dQ6_6 (pc' := 7) rfl rfl rfl ?_
  refine g_bipush W0 dQ6_7 (pc' := 9) rfl (v := 59) rfl ?_
  refine g_virtual W0 dQ6_9 (pc' := 12) (C := "java/lang/String") rfl (hw _ (List.mem_of_getElem? (i := 41) rfl)) (hw _ (List.mem_of_getElem? (i := 42) rfl)) (hw _ (List.mem_of_getElem? (i := 44) rfl)) (hw _ (List.mem_of_getElem? (i := 44) rfl)) (hw _ (List.mem_of_getElem? (i := 43) rfl)) (hw _ (List.mem_of_getElem? (i := 7) rfl)) (hw _ (List.mem_of_getElem? (i := 45) rfl)) (by decide) S.1 (con_ix1 l Z a0 hw hEL x cs zc SC hzc h0 O S hcap) pd__I_I (argsL := [(.int (59 : Int32))]) (st := []) rfl rfl rfl rfl (by decide) (w := 0) (Nat.le_of_eq rfl) (by decide) (by decide) (by decide) (by simp) (fun q hq => nomatch hq) ?_
  intro v452 T453 h454 S457 q455 W458
  have W456 := W458.sf (SF' := []) (fun _ hx => List.mem_append_right _ hx)
  obtain ⟨r, rfl, rfl, ⟨rfl, hf⟩ | ⟨rfl, hf⟩⟩ := q455
  · skip
    have S1 : OLat Z h0 x (cs.take (own_first own_p59 cs)) := by rw [hf, List.take_length]; exact S
    have X1 := own_ext_rf h0
    refine g_istoreN W456 dQ6_12 (pc' := 13) rfl (ls' := #[.val (.ref x), .val (.ref y), .val (.int ((-1) : Int32)), .unset]) rfl ?_
    refine g_iloadN W456 dQ6_13 (pc' := 14) rfl rfl ?_
    refine g_ifN W456 dQ6_14 (pc' := 17) (tlt (by decide : ((-1) : Int32) < (0 : Int32))).2.1 rfl ?_
    refine g_aloadN W456 dQ6_17 (pc' := 18) rfl rfl rfl ?_
    refine g_goto W456 dQ6_18 (pc' := 27) (by decide) (by decide) ?_
    refine g_astoreN W456 dQ6_27 (pc' := 28) rfl (ls' := #[.val (.ref x), .val (.ref y), .val (.int ((-1) : Int32)), .val (.ref x)]) rfl rfl ?_
    refine g_aloadN W456 dQ6_28 (pc' := 29) rfl rfl rfl ?_
    have hct : (cs.take (own_first own_p59 cs)).length ≤ 4 := by rw [List.length_take]; omega
    have O1 := own_ext_tr O X1
    refine g_virtual W456 dQ6_29 (pc' := 32) (C := "java/lang/String") rfl (hw _ (List.mem_of_getElem? (i := 83) rfl)) (hw _ (List.mem_of_getElem? (i := 84) rfl)) (hw _ (List.mem_of_getElem? (i := 86) rfl)) (hw _ (List.mem_of_getElem? (i := 86) rfl)) (hw _ (List.mem_of_getElem? (i := 85) rfl)) (hw _ (List.mem_of_getElem? (i := 7) rfl)) (hw _ (List.mem_of_getElem? (i := 87) rfl)) (by decide) S1.1 (con_trm l Z a0 hw hEL x (cs.take (own_first own_p59 cs)) zc SC hzc h0 O1 S1 hct) pd___Ljava_lang_String_ (argsL := []) (st := []) rfl rfl rfl rfl (by decide) (w := 0) (Nat.le_of_eq rfl) (by decide) (by decide) (by decide) (by simp) (fun q hq => nomatch hq) ?_
    intro v459 T460 h461 S464 q462 W465
    have W463 := W465.sf (SF' := []) (fun _ hx => List.mem_append_right _ hx)
    obtain ⟨x2, rfl, X2, S2⟩ := q462
    have hc2 : (own_tr (cs.take (own_first own_p59 cs))).length ≤ 4 := by rw [own_tr, List.length_take, List.length_drop]; omega
    have X3 := own_ext_tr X1 X2
    have O3 := own_ext_tr O X3
    refine g_aloadN W463 dQ6_32 (pc' := 33) rfl rfl rfl ?_
    refine g_virtual W463 dQ6_33 (pc' := 36) (C := "java/lang/String") rfl (hw _ (List.mem_of_getElem? (i := 95) rfl)) (hw _ (List.mem_of_getElem? (i := 96) rfl)) (hw _ (List.mem_of_getElem? (i := 98) rfl)) (hw _ (List.mem_of_getElem? (i := 98) rfl)) (hw _ (List.mem_of_getElem? (i := 97) rfl)) (hw _ (List.mem_of_getElem? (i := 7) rfl)) (hw _ (List.mem_of_getElem? (i := 99) rfl)) (by decide) S2.1 (con_eic l Z a0 hw hEL x2 y (own_tr (cs.take (own_first own_p59 cs))) ds zc SC hzc h461 O3 S2 (SY.ext X3) hc2 hcap2) pd__Ljava_lang_String__Z (argsL := [(.ref y)]) (st := []) rfl rfl rfl rfl (by decide) (w := 0) (Nat.le_of_eq rfl) (by decide) (by decide) (by decide) (by simp) (fun q hq => nomatch hq) ?_
    intro v466 T467 h468 S471 q469 W472
    have W470 := W472.sf (SF' := []) (fun _ hx => List.mem_append_right _ hx)
    obtain ⟨rfl, ⟨rfl, e473⟩ | ⟨rfl, e473⟩⟩ := q469
    · skip
      exact g_iret W470 dQ6_36 rfl (Or.inr (Or.inl rfl)) rfl ⟨X3, Or.inl ⟨rfl, e473⟩⟩
    · skip
      exact g_iret W470 dQ6_36 rfl (Or.inr (Or.inl rfl)) rfl ⟨X3, Or.inr ⟨rfl, e473⟩⟩
  · skip
    refine g_istoreN W456 dQ6_12 (pc' := 13) rfl (ls' := #[.val (.ref x), .val (.ref y), .val (.int (Int32.ofNat (own_first own_p59 cs))), .unset]) rfl ?_
    refine g_iloadN W456 dQ6_13 (pc' := 14) rfl rfl ?_
    refine g_ifY W456 dQ6_14 (pc' := 21) (flt (own_nn (by have := own_first_le own_p59 cs; omega))).2.1 (by decide) (by decide) ?_
    refine g_aloadN W456 dQ6_21 (pc' := 22) rfl rfl rfl ?_
    refine g_iconst W456 dQ6_22 (pc' := 23) rfl (v := 0) rfl ?_
    refine g_iloadN W456 dQ6_23 (pc' := 24) rfl rfl ?_
    refine g_virtual W456 dQ6_24 (pc' := 27) (C := "java/lang/String") rfl (hw _ (List.mem_of_getElem? (i := 146) rfl)) (hw _ (List.mem_of_getElem? (i := 147) rfl)) (hw _ (List.mem_of_getElem? (i := 149) rfl)) (hw _ (List.mem_of_getElem? (i := 149) rfl)) (hw _ (List.mem_of_getElem? (i := 148) rfl)) (hw _ (List.mem_of_getElem? (i := 7) rfl)) (hw _ (List.mem_of_getElem? (i := 150) rfl)) (by decide) S.1 (con_sub l Z a0 hw hEL x cs (own_first own_p59 cs) zc SC hzc fm hfm SF1 h0 O S hcap hf) pd__II_Ljava_lang_String_ (argsL := [(.int (0 : Int32)), (.int (Int32.ofNat (own_first own_p59 cs)))]) (st := []) rfl rfl rfl rfl (by decide) (w := 0) (Nat.le_of_eq rfl) (by decide) (by decide) (by decide) (by simp) (fun q hq => nomatch hq) ?_
    intro v474 T475 h476 S479 q477 W480
    have W478 := W480.sf (SF' := []) (fun _ hx => List.mem_append_right _ hx)
    obtain ⟨x1, rfl, X1, S1⟩ := q477
    refine g_astoreN W478 dQ6_27 (pc' := 28) rfl (ls' := #[.val (.ref x), .val (.ref y), .val (.int (Int32.ofNat (own_first own_p59 cs))), .val (.ref x1)]) rfl rfl ?_
    refine g_aloadN W478 dQ6_28 (pc' := 29) rfl rfl rfl ?_
    have hct : (cs.take (own_first own_p59 cs)).length ≤ 4 := by rw [List.length_take]; omega
    have O1 := own_ext_tr O X1
    refine g_virtual W478 dQ6_29 (pc' := 32) (C := "java/lang/String") rfl (hw _ (List.mem_of_getElem? (i := 83) rfl)) (hw _ (List.mem_of_getElem? (i := 84) rfl)) (hw _ (List.mem_of_getElem? (i := 86) rfl)) (hw _ (List.mem_of_getElem? (i := 86) rfl)) (hw _ (List.mem_of_getElem? (i := 85) rfl)) (hw _ (List.mem_of_getElem? (i := 7) rfl)) (hw _ (List.mem_of_getElem? (i := 87) rfl)) (by decide) S1.1 (con_trm l Z a0 hw hEL x1 (cs.take (own_first own_p59 cs)) zc SC hzc h476 O1 S1 hct) pd___Ljava_lang_String_ (argsL := []) (st := []) rfl rfl rfl rfl (by decide) (w := 0) (Nat.le_of_eq rfl) (by decide) (by decide) (by decide) (by simp) (fun q hq => nomatch hq) ?_
    intro v481 T482 h483 S486 q484 W487
    have W485 := W487.sf (SF' := []) (fun _ hx => List.mem_append_right _ hx)
    obtain ⟨x2, rfl, X2, S2⟩ := q484
    have hc2 : (own_tr (cs.take (own_first own_p59 cs))).length ≤ 4 := by rw [own_tr, List.length_take, List.length_drop]; omega
    have X3 := own_ext_tr X1 X2
    have O3 := own_ext_tr O X3
    refine g_aloadN W485 dQ6_32 (pc' := 33) rfl rfl rfl ?_
    refine g_virtual W485 dQ6_33 (pc' := 36) (C := "java/lang/String") rfl (hw _ (List.mem_of_getElem? (i := 95) rfl)) (hw _ (List.mem_of_getElem? (i := 96) rfl)) (hw _ (List.mem_of_getElem? (i := 98) rfl)) (hw _ (List.mem_of_getElem? (i := 98) rfl)) (hw _ (List.mem_of_getElem? (i := 97) rfl)) (hw _ (List.mem_of_getElem? (i := 7) rfl)) (hw _ (List.mem_of_getElem? (i := 99) rfl)) (by decide) S2.1 (con_eic l Z a0 hw hEL x2 y (own_tr (cs.take (own_first own_p59 cs))) ds zc SC hzc h483 O3 S2 (SY.ext X3) hc2 hcap2) pd__Ljava_lang_String__Z (argsL := [(.ref y)]) (st := []) rfl rfl rfl rfl (by decide) (w := 0) (Nat.le_of_eq rfl) (by decide) (by decide) (by decide) (by simp) (fun q hq => nomatch hq) ?_
    intro v488 T489 h490 S493 q491 W494
    have W492 := W494.sf (SF' := []) (fun _ hx => List.mem_append_right _ hx)
    obtain ⟨rfl, ⟨rfl, e495⟩ | ⟨rfl, e495⟩⟩ := q491
    · skip
      exact g_iret W492 dQ6_36 rfl (Or.inr (Or.inl rfl)) rfl ⟨X3, Or.inl ⟨rfl, e495⟩⟩
    · skip
      exact g_iret W492 dQ6_36 rfl (Or.inr (Or.inl rfl)) rfl ⟨X3, Or.inr ⟨rfl, e495⟩⟩
theorem own_nar8t : ∀ n, n < 256 → nar .char (Int32.ofNat n) = Int32.ofNat n := by decide +kernel
theorem own_nar8 {c : Int32} (h : ¬ c < 0 ∧ ¬ (255 : Int32) < c) : nar .char c = c := by
  obtain ⟨n, hn, rfl⟩ := own_small h
  exact own_nar8t n hn
theorem pn_com_example_skyhold_skyhold_SbiBodyIsTypePinLaw : plainName "com/example/skyhold/skyhold/SbiBodyIsTypePinLaw" = true := by first | (simp [plainName, overriddenIn]; done) | decide +kernel
set_option maxRecDepth 65536 in
set_option maxHeartbeats 4000000 in
theorem con_fs (l : Launch) (Z : State) (a0 : Array Value) (hw : ∀ d ∈ tables_1, d.before a0 Z = true) (hEL : EW Z a0 consts_1) (a : Addr) (kC : ClassId) (x0 x1 x2 x3 : Int32) (h0 : Heap) (K : Arv Z h0 a kC .char 4 [(.int x0), (.int x1), (.int x2), (.int x3)] (.int 0)) (n : Nat) (hn : n ≤ 4) :
    Ocon l Z consts_1 (⟨"com/example/skyhold/skyhold/SbiBodyIsTypePinLaw", "firstSemi", "([CI)I"⟩ : MethodName) method_4_code 2 (some .int) [] ({ frames := 0, cells := 0, slots := 0, locals := 0 } : Room) #[(.ref a), (.int (Int32.ofNat n))] h0 [] [] (fun v h _ => v = some (.int (Int32.ofNat (own_first own_p59 ([x0, x1, x2, x3].take n)))) ∧ h0 = h) := by
  refine own_con (a0 := a0) hEL (plainFor_of_name pn_com_example_skyhold_skyhold_SbiBodyIsTypePinLaw) ?_
  intro p e s m below meth c T hs W0
  obtain rfl | rfl | rfl | rfl | rfl : n = 0 ∨ n = 1 ∨ n = 2 ∨ n = 3 ∨ n = 4 := by omega
  · skip
    have ef : entryFrame m #[(.ref a), (.int (Int32.ofNat 0))] 2 = mkF m 0 #[.val (.ref a), .val (.int (0 : Int32))] [] := by first | rfl | (simp [entryFrame, mkF, argsToLocals, Value.category]; done)
    rw [ef]
    refine g_iloadN W0 dQ1_0 (pc' := 1) rfl rfl ?_
    refine g_ifY W0 dQ1_1 (pc' := 14) (flt (by decide : ¬ ((0 : Int32) < (0 : Int32)))).2.2.2 (by decide) (by decide) ?_
    refine g_iloadN W0 dQ1_14 (pc' := 15) rfl rfl ?_
    refine g_iconst W0 dQ1_15 (pc' := 16) rfl (v := 1) rfl ?_
    refine g_icY W0 dQ1_16 (pc' := 29) (flt (by decide : ¬ ((1 : Int32) < (0 : Int32)))).2.2.2 (by decide) (by decide) ?_
    refine g_iloadN W0 dQ1_29 (pc' := 30) rfl rfl ?_
    refine g_iconst W0 dQ1_30 (pc' := 31) rfl (v := 2) rfl ?_
    refine g_icY W0 dQ1_31 (pc' := 44) (flt (by decide : ¬ ((2 : Int32) < (0 : Int32)))).2.2.2 (by decide) (by decide) ?_
    refine g_iloadN W0 dQ1_44 (pc' := 45) rfl rfl ?_
    refine g_iconst W0 dQ1_45 (pc' := 46) rfl (v := 3) rfl ?_
    refine g_icY W0 dQ1_46 (pc' := 59) (flt (by decide : ¬ ((3 : Int32) < (0 : Int32)))).2.2.2 (by decide) (by decide) ?_
    refine g_iloadN W0 dQ1_59 (pc' := 60) rfl rfl ?_
    exact g_iret W0 dQ1_60 rfl (Or.inl rfl) rfl ⟨by simp [own_first], rfl⟩
  · skip
    have ef : entryFrame m #[(.ref a), (.int (Int32.ofNat 1))] 2 = mkF m 0 #[.val (.ref a), .val (.int (1 : Int32))] [] := by first | rfl | (simp [entryFrame, mkF, argsToLocals, Value.category]; done)
    rw [ef]
    refine g_iloadN W0 dQ1_0 (pc' := 1) rfl rfl ?_
    refine g_ifN W0 dQ1_1 (pc' := 4) (tlt (by decide : (0 : Int32) < (1 : Int32))).2.2.2 rfl ?_
    refine g_aloadN W0 dQ1_4 (pc' := 5) rfl rfl rfl ?_
    refine g_iconst W0 dQ1_5 (pc' := 6) rfl (v := 0) rfl ?_
    refine g_caload W0 dQ1_6 (pc' := 7) rfl K (i := 0) rfl (by decide) (v := (.int x0)) rfl ?_
    refine g_bipush W0 dQ1_7 (pc' := 9) rfl (v := 59) rfl ?_
    by_cases c496 : x0 = (59 : Int32)
    · skip
      refine g_icN W0 dQ1_9 (pc' := 12) (teq c496).2 rfl ?_
      refine g_iconst W0 dQ1_12 (pc' := 13) rfl (v := 0) rfl ?_
      exact g_iret W0 dQ1_13 rfl (Or.inl rfl) rfl ⟨by simp [own_first, c496], rfl⟩
    · skip
      refine g_icY W0 dQ1_9 (pc' := 14) (feq c496).2 (by decide) (by decide) ?_
      refine g_iloadN W0 dQ1_14 (pc' := 15) rfl rfl ?_
      refine g_iconst W0 dQ1_15 (pc' := 16) rfl (v := 1) rfl ?_
      refine g_icY W0 dQ1_16 (pc' := 29) (flt (by decide : ¬ ((1 : Int32) < (1 : Int32)))).2.2.2 (by decide) (by decide) ?_
      refine g_iloadN W0 dQ1_29 (pc' := 30) rfl rfl ?_
      refine g_iconst W0 dQ1_30 (pc' := 31) rfl (v := 2) rfl ?_
      refine g_icY W0 dQ1_31 (pc' := 44) (flt (by decide : ¬ ((2 : Int32) < (1 : Int32)))).2.2.2 (by decide) (by decide) ?_
      refine g_iloadN W0 dQ1_44 (pc' := 45) rfl rfl ?_
      refine g_iconst W0 dQ1_45 (pc' := 46) rfl (v := 3) rfl ?_
      refine g_icY W0 dQ1_46 (pc' := 59) (flt (by decide : ¬ ((3 : Int32) < (1 : Int32)))).2.2.2 (by decide) (by decide) ?_
      refine g_iloadN W0 dQ1_59 (pc' := 60) rfl rfl ?_
      exact g_iret W0 dQ1_60 rfl (Or.inl rfl) rfl ⟨by simp [own_first, c496], rfl⟩
  · skip
    have ef : entryFrame m #[(.ref a), (.int (Int32.ofNat 2))] 2 = mkF m 0 #[.val (.ref a), .val (.int (2 : Int32))] [] := by first | rfl | (simp [entryFrame, mkF, argsToLocals, Value.category]; done)
    rw [ef]
    refine g_iloadN W0 dQ1_0 (pc' := 1) rfl rfl ?_
    refine g_ifN W0 dQ1_1 (pc' := 4) (tlt (by decide : (0 : Int32) < (2 : Int32))).2.2.2 rfl ?_
    refine g_aloadN W0 dQ1_4 (pc' := 5) rfl rfl rfl ?_
    refine g_iconst W0 dQ1_5 (pc' := 6) rfl (v := 0) rfl ?_
    refine g_caload W0 dQ1_6 (pc' := 7) rfl K (i := 0) rfl (by decide) (v := (.int x0)) rfl ?_
    refine g_bipush W0 dQ1_7 (pc' := 9) rfl (v := 59) rfl ?_
    by_cases c497 : x0 = (59 : Int32)
    · skip
      refine g_icN W0 dQ1_9 (pc' := 12) (teq c497).2 rfl ?_
      refine g_iconst W0 dQ1_12 (pc' := 13) rfl (v := 0) rfl ?_
      exact g_iret W0 dQ1_13 rfl (Or.inl rfl) rfl ⟨by simp [own_first, c497], rfl⟩
    · skip
      refine g_icY W0 dQ1_9 (pc' := 14) (feq c497).2 (by decide) (by decide) ?_
      refine g_iloadN W0 dQ1_14 (pc' := 15) rfl rfl ?_
      refine g_iconst W0 dQ1_15 (pc' := 16) rfl (v := 1) rfl ?_
      refine g_icN W0 dQ1_16 (pc' := 19) (tlt (by decide : (1 : Int32) < (2 : Int32))).2.2.2 rfl ?_
      refine g_aloadN W0 dQ1_19 (pc' := 20) rfl rfl rfl ?_
      refine g_iconst W0 dQ1_20 (pc' := 21) rfl (v := 1) rfl ?_
      refine g_caload W0 dQ1_21 (pc' := 22) rfl K (i := 1) rfl (by decide) (v := (.int x1)) rfl ?_
      refine g_bipush W0 dQ1_22 (pc' := 24) rfl (v := 59) rfl ?_
      by_cases c498 : x1 = (59 : Int32)
      · skip
        refine g_icN W0 dQ1_24 (pc' := 27) (teq c498).2 rfl ?_
        refine g_iconst W0 dQ1_27 (pc' := 28) rfl (v := 1) rfl ?_
        exact g_iret W0 dQ1_28 rfl (Or.inl rfl) rfl ⟨by simp [own_first, c497, c498], rfl⟩
      · skip
        refine g_icY W0 dQ1_24 (pc' := 29) (feq c498).2 (by decide) (by decide) ?_
        refine g_iloadN W0 dQ1_29 (pc' := 30) rfl rfl ?_
        refine g_iconst W0 dQ1_30 (pc' := 31) rfl (v := 2) rfl ?_
        refine g_icY W0 dQ1_31 (pc' := 44) (flt (by decide : ¬ ((2 : Int32) < (2 : Int32)))).2.2.2 (by decide) (by decide) ?_
        refine g_iloadN W0 dQ1_44 (pc' := 45) rfl rfl ?_
        refine g_iconst W0 dQ1_45 (pc' := 46) rfl (v := 3) rfl ?_
        refine g_icY W0 dQ1_46 (pc' := 59) (flt (by decide : ¬ ((3 : Int32) < (2 : Int32)))).2.2.2 (by decide) (by decide) ?_
        refine g_iloadN W0 dQ1_59 (pc' := 60) rfl rfl ?_
        exact g_iret W0 dQ1_60 rfl (Or.inl rfl) rfl ⟨by simp [own_first, c497, c498], rfl⟩
  · skip
    have ef : entryFrame m #[(.ref a), (.int (Int32.ofNat 3))] 2 = mkF m 0 #[.val (.ref a), .val (.int (3 : Int32))] [] := by first | rfl | (simp [entryFrame, mkF, argsToLocals, Value.category]; done)
    rw [ef]
    refine g_iloadN W0 dQ1_0 (pc' := 1) rfl rfl ?_
    refine g_ifN W0 dQ1_1 (pc' := 4) (tlt (by decide : (0 : Int32) < (3 : Int32))).2.2.2 rfl ?_
    refine g_aloadN W0 dQ1_4 (pc' := 5) rfl rfl rfl ?_
    refine g_iconst W0 dQ1_5 (pc' := 6) rfl (v := 0) rfl ?_
    refine g_caload W0 dQ1_6 (pc' := 7) rfl K (i := 0) rfl (by decide) (v := (.int x0)) rfl ?_
    refine g_bipush W0 dQ1_7 (pc' := 9) rfl (v := 59) rfl ?_
    by_cases c499 : x0 = (59 : Int32)
    · skip
      refine g_icN W0 dQ1_9 (pc' := 12) (teq c499).2 rfl ?_
      refine g_iconst W0 dQ1_12 (pc' := 13) rfl (v := 0) rfl ?_
      exact g_iret W0 dQ1_13 rfl (Or.inl rfl) rfl ⟨by simp [own_first, c499], rfl⟩
    · skip
      refine g_icY W0 dQ1_9 (pc' := 14) (feq c499).2 (by decide) (by decide) ?_
      refine g_iloadN W0 dQ1_14 (pc' := 15) rfl rfl ?_
      refine g_iconst W0 dQ1_15 (pc' := 16) rfl (v := 1) rfl ?_
      refine g_icN W0 dQ1_16 (pc' := 19) (tlt (by decide : (1 : Int32) < (3 : Int32))).2.2.2 rfl ?_
      refine g_aloadN W0 dQ1_19 (pc' := 20) rfl rfl rfl ?_
      refine g_iconst W0 dQ1_20 (pc' := 21) rfl (v := 1) rfl ?_
      refine g_caload W0 dQ1_21 (pc' := 22) rfl K (i := 1) rfl (by decide) (v := (.int x1)) rfl ?_
      refine g_bipush W0 dQ1_22 (pc' := 24) rfl (v := 59) rfl ?_
      by_cases c500 : x1 = (59 : Int32)
      · skip
        refine g_icN W0 dQ1_24 (pc' := 27) (teq c500).2 rfl ?_
        refine g_iconst W0 dQ1_27 (pc' := 28) rfl (v := 1) rfl ?_
        exact g_iret W0 dQ1_28 rfl (Or.inl rfl) rfl ⟨by simp [own_first, c499, c500], rfl⟩
      · skip
        refine g_icY W0 dQ1_24 (pc' := 29) (feq c500).2 (by decide) (by decide) ?_
        refine g_iloadN W0 dQ1_29 (pc' := 30) rfl rfl ?_
        refine g_iconst W0 dQ1_30 (pc' := 31) rfl (v := 2) rfl ?_
        refine g_icN W0 dQ1_31 (pc' := 34) (tlt (by decide : (2 : Int32) < (3 : Int32))).2.2.2 rfl ?_
        refine g_aloadN W0 dQ1_34 (pc' := 35) rfl rfl rfl ?_
        refine g_iconst W0 dQ1_35 (pc' := 36) rfl (v := 2) rfl ?_
        refine g_caload W0 dQ1_36 (pc' := 37) rfl K (i := 2) rfl (by decide) (v := (.int x2)) rfl ?_
        refine g_bipush W0 dQ1_37 (pc' := 39) rfl (v := 59) rfl ?_
        by_cases c501 : x2 = (59 : Int32)
        · skip
          refine g_icN W0 dQ1_39 (pc' := 42) (teq c501).2 rfl ?_
          refine g_iconst W0 dQ1_42 (pc' := 43) rfl (v := 2) rfl ?_
          exact g_iret W0 dQ1_43 rfl (Or.inl rfl) rfl ⟨by simp [own_first, c499, c500, c501], rfl⟩
        · skip
          refine g_icY W0 dQ1_39 (pc' := 44) (feq c501).2 (by decide) (by decide) ?_
          refine g_iloadN W0 dQ1_44 (pc' := 45) rfl rfl ?_
          refine g_iconst W0 dQ1_45 (pc' := 46) rfl (v := 3) rfl ?_
          refine g_icY W0 dQ1_46 (pc' := 59) (flt (by decide : ¬ ((3 : Int32) < (3 : Int32)))).2.2.2 (by decide) (by decide) ?_
          refine g_iloadN W0 dQ1_59 (pc' := 60) rfl rfl ?_
          exact g_iret W0 dQ1_60 rfl (Or.inl rfl) rfl ⟨by simp [own_first, c499, c500, c501], rfl⟩
  · skip
    have ef : entryFrame m #[(.ref a), (.int (Int32.ofNat 4))] 2 = mkF m 0 #[.val (.ref a), .val (.int (4 : Int32))] [] := by first | rfl | (simp [entryFrame, mkF, argsToLocals, Value.category]; done)
    rw [ef]
    refine g_iloadN W0 dQ1_0 (pc' := 1) rfl rfl ?_
    refine g_ifN W0 dQ1_1 (pc' := 4) (tlt (by decide : (0 : Int32) < (4 : Int32))).2.2.2 rfl ?_
    refine g_aloadN W0 dQ1_4 (pc' := 5) rfl rfl rfl ?_
    refine g_iconst W0 dQ1_5 (pc' := 6) rfl (v := 0) rfl ?_
    refine g_caload W0 dQ1_6 (pc' := 7) rfl K (i := 0) rfl (by decide) (v := (.int x0)) rfl ?_
    refine g_bipush W0 dQ1_7 (pc' := 9) rfl (v := 59) rfl ?_
    by_cases c502 : x0 = (59 : Int32)
    · skip
      refine g_icN W0 dQ1_9 (pc' := 12) (teq c502).2 rfl ?_
      refine g_iconst W0 dQ1_12 (pc' := 13) rfl (v := 0) rfl ?_
      exact g_iret W0 dQ1_13 rfl (Or.inl rfl) rfl ⟨by simp [own_first, c502], rfl⟩
    · skip
      refine g_icY W0 dQ1_9 (pc' := 14) (feq c502).2 (by decide) (by decide) ?_
      refine g_iloadN W0 dQ1_14 (pc' := 15) rfl rfl ?_
      refine g_iconst W0 dQ1_15 (pc' := 16) rfl (v := 1) rfl ?_
      refine g_icN W0 dQ1_16 (pc' := 19) (tlt (by decide : (1 : Int32) < (4 : Int32))).2.2.2 rfl ?_
      refine g_aloadN W0 dQ1_19 (pc' := 20) rfl rfl rfl ?_
      refine g_iconst W0 dQ1_20 (pc' := 21) rfl (v := 1) rfl ?_
      refine g_caload W0 dQ1_21 (pc' := 22) rfl K (i := 1) rfl (by decide) (v := (.int x1)) rfl ?_
      refine g_bipush W0 dQ1_22 (pc' := 24) rfl (v := 59) rfl ?_
      by_cases c503 : x1 = (59 : Int32)
      · skip
        refine g_icN W0 dQ1_24 (pc' := 27) (teq c503).2 rfl ?_
        refine g_iconst W0 dQ1_27 (pc' := 28) rfl (v := 1) rfl ?_
        exact g_iret W0 dQ1_28 rfl (Or.inl rfl) rfl ⟨by simp [own_first, c502, c503], rfl⟩
      · skip
        refine g_icY W0 dQ1_24 (pc' := 29) (feq c503).2 (by decide) (by decide) ?_
        refine g_iloadN W0 dQ1_29 (pc' := 30) rfl rfl ?_
        refine g_iconst W0 dQ1_30 (pc' := 31) rfl (v := 2) rfl ?_
        refine g_icN W0 dQ1_31 (pc' := 34) (tlt (by decide : (2 : Int32) < (4 : Int32))).2.2.2 rfl ?_
        refine g_aloadN W0 dQ1_34 (pc' := 35) rfl rfl rfl ?_
        refine g_iconst W0 dQ1_35 (pc' := 36) rfl (v := 2) rfl ?_
        refine g_caload W0 dQ1_36 (pc' := 37) rfl K (i := 2) rfl (by decide) (v := (.int x2)) rfl ?_
        refine g_bipush W0 dQ1_37 (pc' := 39) rfl (v := 59) rfl ?_
        by_cases c504 : x2 = (59 : Int32)
        · skip
          refine g_icN W0 dQ1_39 (pc' := 42) (teq c504).2 rfl ?_
          refine g_iconst W0 dQ1_42 (pc' := 43) rfl (v := 2) rfl ?_
          exact g_iret W0 dQ1_43 rfl (Or.inl rfl) rfl ⟨by simp [own_first, c502, c503, c504], rfl⟩
        · skip
          refine g_icY W0 dQ1_39 (pc' := 44) (feq c504).2 (by decide) (by decide) ?_
          refine g_iloadN W0 dQ1_44 (pc' := 45) rfl rfl ?_
          refine g_iconst W0 dQ1_45 (pc' := 46) rfl (v := 3) rfl ?_
          refine g_icN W0 dQ1_46 (pc' := 49) (tlt (by decide : (3 : Int32) < (4 : Int32))).2.2.2 rfl ?_
          refine g_aloadN W0 dQ1_49 (pc' := 50) rfl rfl rfl ?_
          refine g_iconst W0 dQ1_50 (pc' := 51) rfl (v := 3) rfl ?_
          refine g_caload W0 dQ1_51 (pc' := 52) rfl K (i := 3) rfl (by decide) (v := (.int x3)) rfl ?_
          refine g_bipush W0 dQ1_52 (pc' := 54) rfl (v := 59) rfl ?_
          by_cases c505 : x3 = (59 : Int32)
          · skip
            refine g_icN W0 dQ1_54 (pc' := 57) (teq c505).2 rfl ?_
            refine g_iconst W0 dQ1_57 (pc' := 58) rfl (v := 3) rfl ?_
            exact g_iret W0 dQ1_58 rfl (Or.inl rfl) rfl ⟨by simp [own_first, c502, c503, c504, c505], rfl⟩
          · skip
            refine g_icY W0 dQ1_54 (pc' := 59) (feq c505).2 (by decide) (by decide) ?_
            refine g_iloadN W0 dQ1_59 (pc' := 60) rfl rfl ?_
            exact g_iret W0 dQ1_60 rfl (Or.inl rfl) rfl ⟨by simp [own_first, c502, c503, c504, c505], rfl⟩
set_option maxRecDepth 65536 in
set_option maxHeartbeats 4000000 in
theorem con_srt (l : Launch) (Z : State) (a0 : Array Value) (hw : ∀ d ∈ tables_1, d.before a0 Z = true) (hEL : EW Z a0 consts_1) (a : Addr) (kC : ClassId) (x0 x1 x2 x3 : Int32) (h0 : Heap) (K : Arv Z h0 a kC .char 4 [(.int x0), (.int x1), (.int x2), (.int x3)] (.int 0)) (n : Nat) (hn : n ≤ 4) :
    Ocon l Z consts_1 (⟨"com/example/skyhold/skyhold/SbiBodyIsTypePinLaw", "start", "([CI)I"⟩ : MethodName) method_5_code 2 (some .int) [] ({ frames := 0, cells := 0, slots := 0, locals := 0 } : Room) #[(.ref a), (.int (Int32.ofNat n))] h0 [] [] (fun v h _ => v = some (.int (Int32.ofNat (own_first own_p32 ([x0, x1, x2, x3].take n)))) ∧ h0 = h) := by
  refine own_con (a0 := a0) hEL (plainFor_of_name pn_com_example_skyhold_skyhold_SbiBodyIsTypePinLaw) ?_
  intro p e s m below meth c T hs W0
  obtain rfl | rfl | rfl | rfl | rfl : n = 0 ∨ n = 1 ∨ n = 2 ∨ n = 3 ∨ n = 4 := by omega
  · skip
    have ef : entryFrame m #[(.ref a), (.int (Int32.ofNat 0))] 2 = mkF m 0 #[.val (.ref a), .val (.int (0 : Int32))] [] := by first | rfl | (simp [entryFrame, mkF, argsToLocals, Value.category]; done)
    rw [ef]
    refine g_iloadN W0 dQ2_0 (pc' := 1) rfl rfl ?_
    refine g_ifY W0 dQ2_1 (pc' := 14) (flt (by decide : ¬ ((0 : Int32) < (0 : Int32)))).2.2.2 (by decide) (by decide) ?_
    refine g_iloadN W0 dQ2_14 (pc' := 15) rfl rfl ?_
    refine g_iconst W0 dQ2_15 (pc' := 16) rfl (v := 1) rfl ?_
    refine g_icY W0 dQ2_16 (pc' := 29) (flt (by decide : ¬ ((1 : Int32) < (0 : Int32)))).2.2.2 (by decide) (by decide) ?_
    refine g_iloadN W0 dQ2_29 (pc' := 30) rfl rfl ?_
    refine g_iconst W0 dQ2_30 (pc' := 31) rfl (v := 2) rfl ?_
    refine g_icY W0 dQ2_31 (pc' := 44) (flt (by decide : ¬ ((2 : Int32) < (0 : Int32)))).2.2.2 (by decide) (by decide) ?_
    refine g_iloadN W0 dQ2_44 (pc' := 45) rfl rfl ?_
    refine g_iconst W0 dQ2_45 (pc' := 46) rfl (v := 3) rfl ?_
    refine g_icY W0 dQ2_46 (pc' := 59) (flt (by decide : ¬ ((3 : Int32) < (0 : Int32)))).2.2.2 (by decide) (by decide) ?_
    refine g_iloadN W0 dQ2_59 (pc' := 60) rfl rfl ?_
    exact g_iret W0 dQ2_60 rfl (Or.inl rfl) rfl ⟨by simp [own_first], rfl⟩
  · skip
    have ef : entryFrame m #[(.ref a), (.int (Int32.ofNat 1))] 2 = mkF m 0 #[.val (.ref a), .val (.int (1 : Int32))] [] := by first | rfl | (simp [entryFrame, mkF, argsToLocals, Value.category]; done)
    rw [ef]
    refine g_iloadN W0 dQ2_0 (pc' := 1) rfl rfl ?_
    refine g_ifN W0 dQ2_1 (pc' := 4) (tlt (by decide : (0 : Int32) < (1 : Int32))).2.2.2 rfl ?_
    refine g_aloadN W0 dQ2_4 (pc' := 5) rfl rfl rfl ?_
    refine g_iconst W0 dQ2_5 (pc' := 6) rfl (v := 0) rfl ?_
    refine g_caload W0 dQ2_6 (pc' := 7) rfl K (i := 0) rfl (by decide) (v := (.int x0)) rfl ?_
    refine g_bipush W0 dQ2_7 (pc' := 9) rfl (v := 32) rfl ?_
    by_cases c506 : (32 : Int32) < x0
    · skip
      refine g_icN W0 dQ2_9 (pc' := 12) (tlt c506).2.2.2 rfl ?_
      refine g_iconst W0 dQ2_12 (pc' := 13) rfl (v := 0) rfl ?_
      exact g_iret W0 dQ2_13 rfl (Or.inl rfl) rfl ⟨by simp [own_first, c506], rfl⟩
    · skip
      refine g_icY W0 dQ2_9 (pc' := 14) (flt c506).2.2.2 (by decide) (by decide) ?_
      refine g_iloadN W0 dQ2_14 (pc' := 15) rfl rfl ?_
      refine g_iconst W0 dQ2_15 (pc' := 16) rfl (v := 1) rfl ?_
      refine g_icY W0 dQ2_16 (pc' := 29) (flt (by decide : ¬ ((1 : Int32) < (1 : Int32)))).2.2.2 (by decide) (by decide) ?_
      refine g_iloadN W0 dQ2_29 (pc' := 30) rfl rfl ?_
      refine g_iconst W0 dQ2_30 (pc' := 31) rfl (v := 2) rfl ?_
      refine g_icY W0 dQ2_31 (pc' := 44) (flt (by decide : ¬ ((2 : Int32) < (1 : Int32)))).2.2.2 (by decide) (by decide) ?_
      refine g_iloadN W0 dQ2_44 (pc' := 45) rfl rfl ?_
      refine g_iconst W0 dQ2_45 (pc' := 46) rfl (v := 3) rfl ?_
      refine g_icY W0 dQ2_46 (pc' := 59) (flt (by decide : ¬ ((3 : Int32) < (1 : Int32)))).2.2.2 (by decide) (by decide) ?_
      refine g_iloadN W0 dQ2_59 (pc' := 60) rfl rfl ?_
      exact g_iret W0 dQ2_60 rfl (Or.inl rfl) rfl ⟨by simp [own_first, c506], rfl⟩
  · skip
    have ef : entryFrame m #[(.ref a), (.int (Int32.ofNat 2))] 2 = mkF m 0 #[.val (.ref a), .val (.int (2 : Int32))] [] := by first | rfl | (simp [entryFrame, mkF, argsToLocals, Value.category]; done)
    rw [ef]
    refine g_iloadN W0 dQ2_0 (pc' := 1) rfl rfl ?_
    refine g_ifN W0 dQ2_1 (pc' := 4) (tlt (by decide : (0 : Int32) < (2 : Int32))).2.2.2 rfl ?_
    refine g_aloadN W0 dQ2_4 (pc' := 5) rfl rfl rfl ?_
    refine g_iconst W0 dQ2_5 (pc' := 6) rfl (v := 0) rfl ?_
    refine g_caload W0 dQ2_6 (pc' := 7) rfl K (i := 0) rfl (by decide) (v := (.int x0)) rfl ?_
    refine g_bipush W0 dQ2_7 (pc' := 9) rfl (v := 32) rfl ?_
    by_cases c507 : (32 : Int32) < x0
    · skip
      refine g_icN W0 dQ2_9 (pc' := 12) (tlt c507).2.2.2 rfl ?_
      refine g_iconst W0 dQ2_12 (pc' := 13) rfl (v := 0) rfl ?_
      exact g_iret W0 dQ2_13 rfl (Or.inl rfl) rfl ⟨by simp [own_first, c507], rfl⟩
    · skip
      refine g_icY W0 dQ2_9 (pc' := 14) (flt c507).2.2.2 (by decide) (by decide) ?_
      refine g_iloadN W0 dQ2_14 (pc' := 15) rfl rfl ?_
      refine g_iconst W0 dQ2_15 (pc' := 16) rfl (v := 1) rfl ?_
      refine g_icN W0 dQ2_16 (pc' := 19) (tlt (by decide : (1 : Int32) < (2 : Int32))).2.2.2 rfl ?_
      refine g_aloadN W0 dQ2_19 (pc' := 20) rfl rfl rfl ?_
      refine g_iconst W0 dQ2_20 (pc' := 21) rfl (v := 1) rfl ?_
      refine g_caload W0 dQ2_21 (pc' := 22) rfl K (i := 1) rfl (by decide) (v := (.int x1)) rfl ?_
      refine g_bipush W0 dQ2_22 (pc' := 24) rfl (v := 32) rfl ?_
      by_cases c508 : (32 : Int32) < x1
      · skip
        refine g_icN W0 dQ2_24 (pc' := 27) (tlt c508).2.2.2 rfl ?_
        refine g_iconst W0 dQ2_27 (pc' := 28) rfl (v := 1) rfl ?_
        exact g_iret W0 dQ2_28 rfl (Or.inl rfl) rfl ⟨by simp [own_first, c507, c508], rfl⟩
      · skip
        refine g_icY W0 dQ2_24 (pc' := 29) (flt c508).2.2.2 (by decide) (by decide) ?_
        refine g_iloadN W0 dQ2_29 (pc' := 30) rfl rfl ?_
        refine g_iconst W0 dQ2_30 (pc' := 31) rfl (v := 2) rfl ?_
        refine g_icY W0 dQ2_31 (pc' := 44) (flt (by decide : ¬ ((2 : Int32) < (2 : Int32)))).2.2.2 (by decide) (by decide) ?_
        refine g_iloadN W0 dQ2_44 (pc' := 45) rfl rfl ?_
        refine g_iconst W0 dQ2_45 (pc' := 46) rfl (v := 3) rfl ?_
        refine g_icY W0 dQ2_46 (pc' := 59) (flt (by decide : ¬ ((3 : Int32) < (2 : Int32)))).2.2.2 (by decide) (by decide) ?_
        refine g_iloadN W0 dQ2_59 (pc' := 60) rfl rfl ?_
        exact g_iret W0 dQ2_60 rfl (Or.inl rfl) rfl ⟨by simp [own_first, c507, c508], rfl⟩
  · skip
    have ef : entryFrame m #[(.ref a), (.int (Int32.ofNat 3))] 2 = mkF m 0 #[.val (.ref a), .val (.int (3 : Int32))] [] := by first | rfl | (simp [entryFrame, mkF, argsToLocals, Value.category]; done)
    rw [ef]
    refine g_iloadN W0 dQ2_0 (pc' := 1) rfl rfl ?_
    refine g_ifN W0 dQ2_1 (pc' := 4) (tlt (by decide : (0 : Int32) < (3 : Int32))).2.2.2 rfl ?_
    refine g_aloadN W0 dQ2_4 (pc' := 5) rfl rfl rfl ?_
    refine g_iconst W0 dQ2_5 (pc' := 6) rfl (v := 0) rfl ?_
    refine g_caload W0 dQ2_6 (pc' := 7) rfl K (i := 0) rfl (by decide) (v := (.int x0)) rfl ?_
    refine g_bipush W0 dQ2_7 (pc' := 9) rfl (v := 32) rfl ?_
    by_cases c509 : (32 : Int32) < x0
    · skip
      refine g_icN W0 dQ2_9 (pc' := 12) (tlt c509).2.2.2 rfl ?_
      refine g_iconst W0 dQ2_12 (pc' := 13) rfl (v := 0) rfl ?_
      exact g_iret W0 dQ2_13 rfl (Or.inl rfl) rfl ⟨by simp [own_first, c509], rfl⟩
    · skip
      refine g_icY W0 dQ2_9 (pc' := 14) (flt c509).2.2.2 (by decide) (by decide) ?_
      refine g_iloadN W0 dQ2_14 (pc' := 15) rfl rfl ?_
      refine g_iconst W0 dQ2_15 (pc' := 16) rfl (v := 1) rfl ?_
      refine g_icN W0 dQ2_16 (pc' := 19) (tlt (by decide : (1 : Int32) < (3 : Int32))).2.2.2 rfl ?_
      refine g_aloadN W0 dQ2_19 (pc' := 20) rfl rfl rfl ?_
      refine g_iconst W0 dQ2_20 (pc' := 21) rfl (v := 1) rfl ?_
      refine g_caload W0 dQ2_21 (pc' := 22) rfl K (i := 1) rfl (by decide) (v := (.int x1)) rfl ?_
      refine g_bipush W0 dQ2_22 (pc' := 24) rfl (v := 32) rfl ?_
      by_cases c510 : (32 : Int32) < x1
      · skip
        refine g_icN W0 dQ2_24 (pc' := 27) (tlt c510).2.2.2 rfl ?_
        refine g_iconst W0 dQ2_27 (pc' := 28) rfl (v := 1) rfl ?_
        exact g_iret W0 dQ2_28 rfl (Or.inl rfl) rfl ⟨by simp [own_first, c509, c510], rfl⟩
      · skip
        refine g_icY W0 dQ2_24 (pc' := 29) (flt c510).2.2.2 (by decide) (by decide) ?_
        refine g_iloadN W0 dQ2_29 (pc' := 30) rfl rfl ?_
        refine g_iconst W0 dQ2_30 (pc' := 31) rfl (v := 2) rfl ?_
        refine g_icN W0 dQ2_31 (pc' := 34) (tlt (by decide : (2 : Int32) < (3 : Int32))).2.2.2 rfl ?_
        refine g_aloadN W0 dQ2_34 (pc' := 35) rfl rfl rfl ?_
        refine g_iconst W0 dQ2_35 (pc' := 36) rfl (v := 2) rfl ?_
        refine g_caload W0 dQ2_36 (pc' := 37) rfl K (i := 2) rfl (by decide) (v := (.int x2)) rfl ?_
        refine g_bipush W0 dQ2_37 (pc' := 39) rfl (v := 32) rfl ?_
        by_cases c511 : (32 : Int32) < x2
        · skip
          refine g_icN W0 dQ2_39 (pc' := 42) (tlt c511).2.2.2 rfl ?_
          refine g_iconst W0 dQ2_42 (pc' := 43) rfl (v := 2) rfl ?_
          exact g_iret W0 dQ2_43 rfl (Or.inl rfl) rfl ⟨by simp [own_first, c509, c510, c511], rfl⟩
        · skip
          refine g_icY W0 dQ2_39 (pc' := 44) (flt c511).2.2.2 (by decide) (by decide) ?_
          refine g_iloadN W0 dQ2_44 (pc' := 45) rfl rfl ?_
          refine g_iconst W0 dQ2_45 (pc' := 46) rfl (v := 3) rfl ?_
          refine g_icY W0 dQ2_46 (pc' := 59) (flt (by decide : ¬ ((3 : Int32) < (3 : Int32)))).2.2.2 (by decide) (by decide) ?_
          refine g_iloadN W0 dQ2_59 (pc' := 60) rfl rfl ?_
          exact g_iret W0 dQ2_60 rfl (Or.inl rfl) rfl ⟨by simp [own_first, c509, c510, c511], rfl⟩
  · skip
    have ef : entryFrame m #[(.ref a), (.int (Int32.ofNat 4))] 2 = mkF m 0 #[.val (.ref a), .val (.int (4 : Int32))] [] := by first | rfl | (simp [entryFrame, mkF, argsToLocals, Value.category]; done)
    rw [ef]
    refine g_iloadN W0 dQ2_0 (pc' := 1) rfl rfl ?_
    refine g_ifN W0 dQ2_1 (pc' := 4) (tlt (by decide : (0 : Int32) < (4 : Int32))).2.2.2 rfl ?_
    refine g_aloadN W0 dQ2_4 (pc' := 5) rfl rfl rfl ?_
    refine g_iconst W0 dQ2_5 (pc' := 6) rfl (v := 0) rfl ?_
    refine g_caload W0 dQ2_6 (pc' := 7) rfl K (i := 0) rfl (by decide) (v := (.int x0)) rfl ?_
    refine g_bipush W0 dQ2_7 (pc' := 9) rfl (v := 32) rfl ?_
    by_cases c512 : (32 : Int32) < x0
    · skip
      refine g_icN W0 dQ2_9 (pc' := 12) (tlt c512).2.2.2 rfl ?_
      refine g_iconst W0 dQ2_12 (pc' := 13) rfl (v := 0) rfl ?_
      exact g_iret W0 dQ2_13 rfl (Or.inl rfl) rfl ⟨by simp [own_first, c512], rfl⟩
    · skip
      refine g_icY W0 dQ2_9 (pc' := 14) (flt c512).2.2.2 (by decide) (by decide) ?_
      refine g_iloadN W0 dQ2_14 (pc' := 15) rfl rfl ?_
      refine g_iconst W0 dQ2_15 (pc' := 16) rfl (v := 1) rfl ?_
      refine g_icN W0 dQ2_16 (pc' := 19) (tlt (by decide : (1 : Int32) < (4 : Int32))).2.2.2 rfl ?_
      refine g_aloadN W0 dQ2_19 (pc' := 20) rfl rfl rfl ?_
      refine g_iconst W0 dQ2_20 (pc' := 21) rfl (v := 1) rfl ?_
      refine g_caload W0 dQ2_21 (pc' := 22) rfl K (i := 1) rfl (by decide) (v := (.int x1)) rfl ?_
      refine g_bipush W0 dQ2_22 (pc' := 24) rfl (v := 32) rfl ?_
      by_cases c513 : (32 : Int32) < x1
      · skip
        refine g_icN W0 dQ2_24 (pc' := 27) (tlt c513).2.2.2 rfl ?_
        refine g_iconst W0 dQ2_27 (pc' := 28) rfl (v := 1) rfl ?_
        exact g_iret W0 dQ2_28 rfl (Or.inl rfl) rfl ⟨by simp [own_first, c512, c513], rfl⟩
      · skip
        refine g_icY W0 dQ2_24 (pc' := 29) (flt c513).2.2.2 (by decide) (by decide) ?_
        refine g_iloadN W0 dQ2_29 (pc' := 30) rfl rfl ?_
        refine g_iconst W0 dQ2_30 (pc' := 31) rfl (v := 2) rfl ?_
        refine g_icN W0 dQ2_31 (pc' := 34) (tlt (by decide : (2 : Int32) < (4 : Int32))).2.2.2 rfl ?_
        refine g_aloadN W0 dQ2_34 (pc' := 35) rfl rfl rfl ?_
        refine g_iconst W0 dQ2_35 (pc' := 36) rfl (v := 2) rfl ?_
        refine g_caload W0 dQ2_36 (pc' := 37) rfl K (i := 2) rfl (by decide) (v := (.int x2)) rfl ?_
        refine g_bipush W0 dQ2_37 (pc' := 39) rfl (v := 32) rfl ?_
        by_cases c514 : (32 : Int32) < x2
        · skip
          refine g_icN W0 dQ2_39 (pc' := 42) (tlt c514).2.2.2 rfl ?_
          refine g_iconst W0 dQ2_42 (pc' := 43) rfl (v := 2) rfl ?_
          exact g_iret W0 dQ2_43 rfl (Or.inl rfl) rfl ⟨by simp [own_first, c512, c513, c514], rfl⟩
        · skip
          refine g_icY W0 dQ2_39 (pc' := 44) (flt c514).2.2.2 (by decide) (by decide) ?_
          refine g_iloadN W0 dQ2_44 (pc' := 45) rfl rfl ?_
          refine g_iconst W0 dQ2_45 (pc' := 46) rfl (v := 3) rfl ?_
          refine g_icN W0 dQ2_46 (pc' := 49) (tlt (by decide : (3 : Int32) < (4 : Int32))).2.2.2 rfl ?_
          refine g_aloadN W0 dQ2_49 (pc' := 50) rfl rfl rfl ?_
          refine g_iconst W0 dQ2_50 (pc' := 51) rfl (v := 3) rfl ?_
          refine g_caload W0 dQ2_51 (pc' := 52) rfl K (i := 3) rfl (by decide) (v := (.int x3)) rfl ?_
          refine g_bipush W0 dQ2_52 (pc' := 54) rfl (v := 32) rfl ?_
          by_cases c515 : (32 : Int32) < x3
          · skip
            refine g_icN W0 dQ2_54 (pc' := 57) (tlt c515).2.2.2 rfl ?_
            refine g_iconst W0 dQ2_57 (pc' := 58) rfl (v := 3) rfl ?_
            exact g_iret W0 dQ2_58 rfl (Or.inl rfl) rfl ⟨by simp [own_first, c512, c513, c514, c515], rfl⟩
          · skip
            refine g_icY W0 dQ2_54 (pc' := 59) (flt c515).2.2.2 (by decide) (by decide) ?_
            refine g_iloadN W0 dQ2_59 (pc' := 60) rfl rfl ?_
            exact g_iret W0 dQ2_60 rfl (Or.inl rfl) rfl ⟨by simp [own_first, c512, c513, c514, c515], rfl⟩
set_option maxRecDepth 65536 in
set_option maxHeartbeats 4000000 in
theorem con_en (l : Launch) (Z : State) (a0 : Array Value) (hw : ∀ d ∈ tables_1, d.before a0 Z = true) (hEL : EW Z a0 consts_1) (a : Addr) (kC : ClassId) (x0 x1 x2 x3 : Int32) (h0 : Heap) (K : Arv Z h0 a kC .char 4 [(.int x0), (.int x1), (.int x2), (.int x3)] (.int 0)) (n st : Nat) (hn : n ≤ 4) (hst : own_first own_p32 ([x0, x1, x2, x3].take n) = st) :
    Ocon l Z consts_1 (⟨"com/example/skyhold/skyhold/SbiBodyIsTypePinLaw", "end", "([CII)I"⟩ : MethodName) method_6_code 3 (some .int) [] ({ frames := 0, cells := 0, slots := 0, locals := 0 } : Room) #[(.ref a), (.int (Int32.ofNat n)), (.int (Int32.ofNat st))] h0 [] [] (fun v h _ => v = some (.int (Int32.ofNat (own_e ([x0, x1, x2, x3].take n)))) ∧ h0 = h) := by
  refine own_con (a0 := a0) hEL (plainFor_of_name pn_com_example_skyhold_skyhold_SbiBodyIsTypePinLaw) ?_
  intro p e s m below meth c T hs W0
  obtain rfl | rfl | rfl | rfl | rfl : n = 0 ∨ n = 1 ∨ n = 2 ∨ n = 3 ∨ n = 4 := by omega
  · skip
    have ef : entryFrame m #[(.ref a), (.int (Int32.ofNat 0)), (.int (Int32.ofNat st))] 3 = mkF m 0 #[.val (.ref a), .val (.int (0 : Int32)), .val (.int (Int32.ofNat st))] [] := by first | rfl | (simp [entryFrame, mkF, argsToLocals, Value.category]; done)
    rw [ef]
    refine g_iloadN W0 dQ3_0 (pc' := 1) rfl rfl ?_
    refine g_iconst W0 dQ3_1 (pc' := 2) rfl (v := 3) rfl ?_
    refine g_icY W0 dQ3_2 (pc' := 15) (flt (by decide : ¬ ((3 : Int32) < (0 : Int32)))).2.2.2 (by decide) (by decide) ?_
    refine g_iloadN W0 dQ3_15 (pc' := 16) rfl rfl ?_
    refine g_iconst W0 dQ3_16 (pc' := 17) rfl (v := 2) rfl ?_
    refine g_icY W0 dQ3_17 (pc' := 30) (flt (by decide : ¬ ((2 : Int32) < (0 : Int32)))).2.2.2 (by decide) (by decide) ?_
    refine g_iloadN W0 dQ3_30 (pc' := 31) rfl rfl ?_
    refine g_iconst W0 dQ3_31 (pc' := 32) rfl (v := 1) rfl ?_
    refine g_icY W0 dQ3_32 (pc' := 45) (flt (by decide : ¬ ((1 : Int32) < (0 : Int32)))).2.2.2 (by decide) (by decide) ?_
    refine g_iloadN W0 dQ3_45 (pc' := 46) rfl rfl ?_
    refine g_ifY W0 dQ3_46 (pc' := 59) (flt (by decide : ¬ ((0 : Int32) < (0 : Int32)))).2.2.2 (by decide) (by decide) ?_
    refine g_iloadN W0 dQ3_59 (pc' := 60) rfl rfl ?_
    exact g_iret W0 dQ3_60 rfl (Or.inl rfl) rfl ⟨by rw [own_e, if_pos (by simp [own_end]), hst], rfl⟩
  · skip
    have ef : entryFrame m #[(.ref a), (.int (Int32.ofNat 1)), (.int (Int32.ofNat st))] 3 = mkF m 0 #[.val (.ref a), .val (.int (1 : Int32)), .val (.int (Int32.ofNat st))] [] := by first | rfl | (simp [entryFrame, mkF, argsToLocals, Value.category]; done)
    rw [ef]
    refine g_iloadN W0 dQ3_0 (pc' := 1) rfl rfl ?_
    refine g_iconst W0 dQ3_1 (pc' := 2) rfl (v := 3) rfl ?_
    refine g_icY W0 dQ3_2 (pc' := 15) (flt (by decide : ¬ ((3 : Int32) < (1 : Int32)))).2.2.2 (by decide) (by decide) ?_
    refine g_iloadN W0 dQ3_15 (pc' := 16) rfl rfl ?_
    refine g_iconst W0 dQ3_16 (pc' := 17) rfl (v := 2) rfl ?_
    refine g_icY W0 dQ3_17 (pc' := 30) (flt (by decide : ¬ ((2 : Int32) < (1 : Int32)))).2.2.2 (by decide) (by decide) ?_
    refine g_iloadN W0 dQ3_30 (pc' := 31) rfl rfl ?_
    refine g_iconst W0 dQ3_31 (pc' := 32) rfl (v := 1) rfl ?_
    refine g_icY W0 dQ3_32 (pc' := 45) (flt (by decide : ¬ ((1 : Int32) < (1 : Int32)))).2.2.2 (by decide) (by decide) ?_
    refine g_iloadN W0 dQ3_45 (pc' := 46) rfl rfl ?_
    refine g_ifN W0 dQ3_46 (pc' := 49) (tlt (by decide : (0 : Int32) < (1 : Int32))).2.2.2 rfl ?_
    refine g_aloadN W0 dQ3_49 (pc' := 50) rfl rfl rfl ?_
    refine g_iconst W0 dQ3_50 (pc' := 51) rfl (v := 0) rfl ?_
    refine g_caload W0 dQ3_51 (pc' := 52) rfl K (i := 0) rfl (by decide) (v := (.int x0)) rfl ?_
    refine g_bipush W0 dQ3_52 (pc' := 54) rfl (v := 32) rfl ?_
    by_cases c516 : (32 : Int32) < x0
    · skip
      refine g_icN W0 dQ3_54 (pc' := 57) (tlt c516).2.2.2 rfl ?_
      refine g_iconst W0 dQ3_57 (pc' := 58) rfl (v := 1) rfl ?_
      exact g_iret W0 dQ3_58 rfl (Or.inl rfl) rfl ⟨by simp [own_e, own_end, c516], rfl⟩
    · skip
      refine g_icY W0 dQ3_54 (pc' := 59) (flt c516).2.2.2 (by decide) (by decide) ?_
      refine g_iloadN W0 dQ3_59 (pc' := 60) rfl rfl ?_
      exact g_iret W0 dQ3_60 rfl (Or.inl rfl) rfl ⟨by rw [own_e, if_pos (by simp [own_end, c516]), hst], rfl⟩
  · skip
    have ef : entryFrame m #[(.ref a), (.int (Int32.ofNat 2)), (.int (Int32.ofNat st))] 3 = mkF m 0 #[.val (.ref a), .val (.int (2 : Int32)), .val (.int (Int32.ofNat st))] [] := by first | rfl | (simp [entryFrame, mkF, argsToLocals, Value.category]; done)
    rw [ef]
    refine g_iloadN W0 dQ3_0 (pc' := 1) rfl rfl ?_
    refine g_iconst W0 dQ3_1 (pc' := 2) rfl (v := 3) rfl ?_
    refine g_icY W0 dQ3_2 (pc' := 15) (flt (by decide : ¬ ((3 : Int32) < (2 : Int32)))).2.2.2 (by decide) (by decide) ?_
    refine g_iloadN W0 dQ3_15 (pc' := 16) rfl rfl ?_
    refine g_iconst W0 dQ3_16 (pc' := 17) rfl (v := 2) rfl ?_
    refine g_icY W0 dQ3_17 (pc' := 30) (flt (by decide : ¬ ((2 : Int32) < (2 : Int32)))).2.2.2 (by decide) (by decide) ?_
    refine g_iloadN W0 dQ3_30 (pc' := 31) rfl rfl ?_
    refine g_iconst W0 dQ3_31 (pc' := 32) rfl (v := 1) rfl ?_
    refine g_icN W0 dQ3_32 (pc' := 35) (tlt (by decide : (1 : Int32) < (2 : Int32))).2.2.2 rfl ?_
    refine g_aloadN W0 dQ3_35 (pc' := 36) rfl rfl rfl ?_
    refine g_iconst W0 dQ3_36 (pc' := 37) rfl (v := 1) rfl ?_
    refine g_caload W0 dQ3_37 (pc' := 38) rfl K (i := 1) rfl (by decide) (v := (.int x1)) rfl ?_
    refine g_bipush W0 dQ3_38 (pc' := 40) rfl (v := 32) rfl ?_
    by_cases c517 : (32 : Int32) < x1
    · skip
      refine g_icN W0 dQ3_40 (pc' := 43) (tlt c517).2.2.2 rfl ?_
      refine g_iconst W0 dQ3_43 (pc' := 44) rfl (v := 2) rfl ?_
      exact g_iret W0 dQ3_44 rfl (Or.inl rfl) rfl ⟨by simp [own_e, own_end, c517], rfl⟩
    · skip
      refine g_icY W0 dQ3_40 (pc' := 45) (flt c517).2.2.2 (by decide) (by decide) ?_
      refine g_iloadN W0 dQ3_45 (pc' := 46) rfl rfl ?_
      refine g_ifN W0 dQ3_46 (pc' := 49) (tlt (by decide : (0 : Int32) < (2 : Int32))).2.2.2 rfl ?_
      refine g_aloadN W0 dQ3_49 (pc' := 50) rfl rfl rfl ?_
      refine g_iconst W0 dQ3_50 (pc' := 51) rfl (v := 0) rfl ?_
      refine g_caload W0 dQ3_51 (pc' := 52) rfl K (i := 0) rfl (by decide) (v := (.int x0)) rfl ?_
      refine g_bipush W0 dQ3_52 (pc' := 54) rfl (v := 32) rfl ?_
      by_cases c518 : (32 : Int32) < x0
      · skip
        refine g_icN W0 dQ3_54 (pc' := 57) (tlt c518).2.2.2 rfl ?_
        refine g_iconst W0 dQ3_57 (pc' := 58) rfl (v := 1) rfl ?_
        exact g_iret W0 dQ3_58 rfl (Or.inl rfl) rfl ⟨by simp [own_e, own_end, c517, c518], rfl⟩
      · skip
        refine g_icY W0 dQ3_54 (pc' := 59) (flt c518).2.2.2 (by decide) (by decide) ?_
        refine g_iloadN W0 dQ3_59 (pc' := 60) rfl rfl ?_
        exact g_iret W0 dQ3_60 rfl (Or.inl rfl) rfl ⟨by rw [own_e, if_pos (by simp [own_end, c517, c518]), hst], rfl⟩
  · skip
    have ef : entryFrame m #[(.ref a), (.int (Int32.ofNat 3)), (.int (Int32.ofNat st))] 3 = mkF m 0 #[.val (.ref a), .val (.int (3 : Int32)), .val (.int (Int32.ofNat st))] [] := by first | rfl | (simp [entryFrame, mkF, argsToLocals, Value.category]; done)
    rw [ef]
    refine g_iloadN W0 dQ3_0 (pc' := 1) rfl rfl ?_
    refine g_iconst W0 dQ3_1 (pc' := 2) rfl (v := 3) rfl ?_
    refine g_icY W0 dQ3_2 (pc' := 15) (flt (by decide : ¬ ((3 : Int32) < (3 : Int32)))).2.2.2 (by decide) (by decide) ?_
    refine g_iloadN W0 dQ3_15 (pc' := 16) rfl rfl ?_
    refine g_iconst W0 dQ3_16 (pc' := 17) rfl (v := 2) rfl ?_
    refine g_icN W0 dQ3_17 (pc' := 20) (tlt (by decide : (2 : Int32) < (3 : Int32))).2.2.2 rfl ?_
    refine g_aloadN W0 dQ3_20 (pc' := 21) rfl rfl rfl ?_
    refine g_iconst W0 dQ3_21 (pc' := 22) rfl (v := 2) rfl ?_
    refine g_caload W0 dQ3_22 (pc' := 23) rfl K (i := 2) rfl (by decide) (v := (.int x2)) rfl ?_
    refine g_bipush W0 dQ3_23 (pc' := 25) rfl (v := 32) rfl ?_
    by_cases c519 : (32 : Int32) < x2
    · skip
      refine g_icN W0 dQ3_25 (pc' := 28) (tlt c519).2.2.2 rfl ?_
      refine g_iconst W0 dQ3_28 (pc' := 29) rfl (v := 3) rfl ?_
      exact g_iret W0 dQ3_29 rfl (Or.inl rfl) rfl ⟨by simp [own_e, own_end, c519], rfl⟩
    · skip
      refine g_icY W0 dQ3_25 (pc' := 30) (flt c519).2.2.2 (by decide) (by decide) ?_
      refine g_iloadN W0 dQ3_30 (pc' := 31) rfl rfl ?_
      refine g_iconst W0 dQ3_31 (pc' := 32) rfl (v := 1) rfl ?_
      refine g_icN W0 dQ3_32 (pc' := 35) (tlt (by decide : (1 : Int32) < (3 : Int32))).2.2.2 rfl ?_
      refine g_aloadN W0 dQ3_35 (pc' := 36) rfl rfl rfl ?_
      refine g_iconst W0 dQ3_36 (pc' := 37) rfl (v := 1) rfl ?_
      refine g_caload W0 dQ3_37 (pc' := 38) rfl K (i := 1) rfl (by decide) (v := (.int x1)) rfl ?_
      refine g_bipush W0 dQ3_38 (pc' := 40) rfl (v := 32) rfl ?_
      by_cases c520 : (32 : Int32) < x1
      · skip
        refine g_icN W0 dQ3_40 (pc' := 43) (tlt c520).2.2.2 rfl ?_
        refine g_iconst W0 dQ3_43 (pc' := 44) rfl (v := 2) rfl ?_
        exact g_iret W0 dQ3_44 rfl (Or.inl rfl) rfl ⟨by simp [own_e, own_end, c519, c520], rfl⟩
      · skip
        refine g_icY W0 dQ3_40 (pc' := 45) (flt c520).2.2.2 (by decide) (by decide) ?_
        refine g_iloadN W0 dQ3_45 (pc' := 46) rfl rfl ?_
        refine g_ifN W0 dQ3_46 (pc' := 49) (tlt (by decide : (0 : Int32) < (3 : Int32))).2.2.2 rfl ?_
        refine g_aloadN W0 dQ3_49 (pc' := 50) rfl rfl rfl ?_
        refine g_iconst W0 dQ3_50 (pc' := 51) rfl (v := 0) rfl ?_
        refine g_caload W0 dQ3_51 (pc' := 52) rfl K (i := 0) rfl (by decide) (v := (.int x0)) rfl ?_
        refine g_bipush W0 dQ3_52 (pc' := 54) rfl (v := 32) rfl ?_
        by_cases c521 : (32 : Int32) < x0
        · skip
          refine g_icN W0 dQ3_54 (pc' := 57) (tlt c521).2.2.2 rfl ?_
          refine g_iconst W0 dQ3_57 (pc' := 58) rfl (v := 1) rfl ?_
          exact g_iret W0 dQ3_58 rfl (Or.inl rfl) rfl ⟨by simp [own_e, own_end, c519, c520, c521], rfl⟩
        · skip
          refine g_icY W0 dQ3_54 (pc' := 59) (flt c521).2.2.2 (by decide) (by decide) ?_
          refine g_iloadN W0 dQ3_59 (pc' := 60) rfl rfl ?_
          exact g_iret W0 dQ3_60 rfl (Or.inl rfl) rfl ⟨by rw [own_e, if_pos (by simp [own_end, c519, c520, c521]), hst], rfl⟩
  · skip
    have ef : entryFrame m #[(.ref a), (.int (Int32.ofNat 4)), (.int (Int32.ofNat st))] 3 = mkF m 0 #[.val (.ref a), .val (.int (4 : Int32)), .val (.int (Int32.ofNat st))] [] := by first | rfl | (simp [entryFrame, mkF, argsToLocals, Value.category]; done)
    rw [ef]
    refine g_iloadN W0 dQ3_0 (pc' := 1) rfl rfl ?_
    refine g_iconst W0 dQ3_1 (pc' := 2) rfl (v := 3) rfl ?_
    refine g_icN W0 dQ3_2 (pc' := 5) (tlt (by decide : (3 : Int32) < (4 : Int32))).2.2.2 rfl ?_
    refine g_aloadN W0 dQ3_5 (pc' := 6) rfl rfl rfl ?_
    refine g_iconst W0 dQ3_6 (pc' := 7) rfl (v := 3) rfl ?_
    refine g_caload W0 dQ3_7 (pc' := 8) rfl K (i := 3) rfl (by decide) (v := (.int x3)) rfl ?_
    refine g_bipush W0 dQ3_8 (pc' := 10) rfl (v := 32) rfl ?_
    by_cases c522 : (32 : Int32) < x3
    · skip
      refine g_icN W0 dQ3_10 (pc' := 13) (tlt c522).2.2.2 rfl ?_
      refine g_iconst W0 dQ3_13 (pc' := 14) rfl (v := 4) rfl ?_
      exact g_iret W0 dQ3_14 rfl (Or.inl rfl) rfl ⟨by simp [own_e, own_end, c522], rfl⟩
    · skip
      refine g_icY W0 dQ3_10 (pc' := 15) (flt c522).2.2.2 (by decide) (by decide) ?_
      refine g_iloadN W0 dQ3_15 (pc' := 16) rfl rfl ?_
      refine g_iconst W0 dQ3_16 (pc' := 17) rfl (v := 2) rfl ?_
      refine g_icN W0 dQ3_17 (pc' := 20) (tlt (by decide : (2 : Int32) < (4 : Int32))).2.2.2 rfl ?_
      refine g_aloadN W0 dQ3_20 (pc' := 21) rfl rfl rfl ?_
      refine g_iconst W0 dQ3_21 (pc' := 22) rfl (v := 2) rfl ?_
      refine g_caload W0 dQ3_22 (pc' := 23) rfl K (i := 2) rfl (by decide) (v := (.int x2)) rfl ?_
      refine g_bipush W0 dQ3_23 (pc' := 25) rfl (v := 32) rfl ?_
      by_cases c523 : (32 : Int32) < x2
      · skip
        refine g_icN W0 dQ3_25 (pc' := 28) (tlt c523).2.2.2 rfl ?_
        refine g_iconst W0 dQ3_28 (pc' := 29) rfl (v := 3) rfl ?_
        exact g_iret W0 dQ3_29 rfl (Or.inl rfl) rfl ⟨by simp [own_e, own_end, c522, c523], rfl⟩
      · skip
        refine g_icY W0 dQ3_25 (pc' := 30) (flt c523).2.2.2 (by decide) (by decide) ?_
        refine g_iloadN W0 dQ3_30 (pc' := 31) rfl rfl ?_
        refine g_iconst W0 dQ3_31 (pc' := 32) rfl (v := 1) rfl ?_
        refine g_icN W0 dQ3_32 (pc' := 35) (tlt (by decide : (1 : Int32) < (4 : Int32))).2.2.2 rfl ?_
        refine g_aloadN W0 dQ3_35 (pc' := 36) rfl rfl rfl ?_
        refine g_iconst W0 dQ3_36 (pc' := 37) rfl (v := 1) rfl ?_
        refine g_caload W0 dQ3_37 (pc' := 38) rfl K (i := 1) rfl (by decide) (v := (.int x1)) rfl ?_
        refine g_bipush W0 dQ3_38 (pc' := 40) rfl (v := 32) rfl ?_
        by_cases c524 : (32 : Int32) < x1
        · skip
          refine g_icN W0 dQ3_40 (pc' := 43) (tlt c524).2.2.2 rfl ?_
          refine g_iconst W0 dQ3_43 (pc' := 44) rfl (v := 2) rfl ?_
          exact g_iret W0 dQ3_44 rfl (Or.inl rfl) rfl ⟨by simp [own_e, own_end, c522, c523, c524], rfl⟩
        · skip
          refine g_icY W0 dQ3_40 (pc' := 45) (flt c524).2.2.2 (by decide) (by decide) ?_
          refine g_iloadN W0 dQ3_45 (pc' := 46) rfl rfl ?_
          refine g_ifN W0 dQ3_46 (pc' := 49) (tlt (by decide : (0 : Int32) < (4 : Int32))).2.2.2 rfl ?_
          refine g_aloadN W0 dQ3_49 (pc' := 50) rfl rfl rfl ?_
          refine g_iconst W0 dQ3_50 (pc' := 51) rfl (v := 0) rfl ?_
          refine g_caload W0 dQ3_51 (pc' := 52) rfl K (i := 0) rfl (by decide) (v := (.int x0)) rfl ?_
          refine g_bipush W0 dQ3_52 (pc' := 54) rfl (v := 32) rfl ?_
          by_cases c525 : (32 : Int32) < x0
          · skip
            refine g_icN W0 dQ3_54 (pc' := 57) (tlt c525).2.2.2 rfl ?_
            refine g_iconst W0 dQ3_57 (pc' := 58) rfl (v := 1) rfl ?_
            exact g_iret W0 dQ3_58 rfl (Or.inl rfl) rfl ⟨by simp [own_e, own_end, c522, c523, c524, c525], rfl⟩
          · skip
            refine g_icY W0 dQ3_54 (pc' := 59) (flt c525).2.2.2 (by decide) (by decide) ?_
            refine g_iloadN W0 dQ3_59 (pc' := 60) rfl rfl ?_
            exact g_iret W0 dQ3_60 rfl (Or.inl rfl) rfl ⟨by rw [own_e, if_pos (by simp [own_end, c522, c523, c524, c525]), hst], rfl⟩
set_option maxRecDepth 65536 in
set_option maxHeartbeats 4000000 in
theorem con_fold (l : Launch) (Z : State) (a0 : Array Value) (hw : ∀ d ∈ tables_1, d.before a0 Z = true) (hEL : EW Z a0 consts_1) (c1 : Int32) (h0 : Heap) :
    Ocon l Z consts_1 (⟨"com/example/skyhold/skyhold/SbiBodyIsTypePinLaw", "fold", "(C)I"⟩ : MethodName) method_7_code 1 (some .int) [] ({ frames := 0, cells := 0, slots := 0, locals := 0 } : Room) #[(.int c1)] h0 [] [] (fun v h _ => v = some (.int (own_fold c1)) ∧ h0 = h) := by
  refine own_con (a0 := a0) hEL (plainFor_of_name pn_com_example_skyhold_skyhold_SbiBodyIsTypePinLaw) ?_
  intro p e s m below meth c T hs W0
  have ef : entryFrame m #[(.int c1)] 1 = mkF m 0 #[.val (.int c1)] [] := by first | rfl | (simp [entryFrame, mkF, argsToLocals, Value.category]; done)
  rw [ef]
  refine g_iloadN W0 dQ5_0 (pc' := 1) rfl rfl ?_
  refine g_bipush W0 dQ5_1 (pc' := 3) rfl (v := 65) rfl ?_
  by_cases c526 : c1 < (65 : Int32)
  · skip
    refine g_icY W0 dQ5_3 (pc' := 17) (tlt c526).1 (by decide) (by decide) ?_
    refine g_iloadN W0 dQ5_17 (pc' := 18) rfl rfl ?_
    refine g_sipush W0 dQ5_18 (pc' := 21) rfl (v := 192) rfl ?_
    by_cases c527 : c1 < (192 : Int32)
    · skip
      refine g_icY W0 dQ5_21 (pc' := 43) (tlt c527).1 (by decide) (by decide) ?_
      refine g_iloadN W0 dQ5_43 (pc' := 44) rfl rfl ?_
      exact g_iret W0 dQ5_44 rfl (Or.inl rfl) rfl ⟨by simp [own_fold, c526, c527], rfl⟩
    · skip
      refine g_icN W0 dQ5_21 (pc' := 24) (flt c527).1 rfl ?_
      refine g_iloadN W0 dQ5_24 (pc' := 25) rfl rfl ?_
      refine g_sipush W0 dQ5_25 (pc' := 28) rfl (v := 222) rfl ?_
      by_cases c528 : (222 : Int32) < c1
      · skip
        refine g_icY W0 dQ5_28 (pc' := 43) (tlt c528).2.2.1 (by decide) (by decide) ?_
        refine g_iloadN W0 dQ5_43 (pc' := 44) rfl rfl ?_
        exact g_iret W0 dQ5_44 rfl (Or.inl rfl) rfl ⟨by simp [own_fold, c526, c527, c528], rfl⟩
      · skip
        refine g_icN W0 dQ5_28 (pc' := 31) (flt c528).2.2.1 rfl ?_
        refine g_iloadN W0 dQ5_31 (pc' := 32) rfl rfl ?_
        refine g_sipush W0 dQ5_32 (pc' := 35) rfl (v := 215) rfl ?_
        by_cases c529 : c1 = (215 : Int32)
        · skip
          refine g_icY W0 dQ5_35 (pc' := 43) (teq c529).1 (by decide) (by decide) ?_
          refine g_iloadN W0 dQ5_43 (pc' := 44) rfl rfl ?_
          exact g_iret W0 dQ5_44 rfl (Or.inl rfl) rfl ⟨by simp [own_fold, c526, c527, c528, c529], rfl⟩
        · skip
          refine g_icN W0 dQ5_35 (pc' := 38) (feq c529).1 rfl ?_
          refine g_iloadN W0 dQ5_38 (pc' := 39) rfl rfl ?_
          refine g_bipush W0 dQ5_39 (pc' := 41) rfl (v := 32) rfl ?_
          refine g_iadd W0 dQ5_41 (pc' := 42) rfl ?_
          exact g_iret W0 dQ5_42 rfl (Or.inl rfl) rfl ⟨by simp [own_fold, c526, c527, c528, c529], rfl⟩
  · skip
    refine g_icN W0 dQ5_3 (pc' := 6) (flt c526).1 rfl ?_
    refine g_iloadN W0 dQ5_6 (pc' := 7) rfl rfl ?_
    refine g_bipush W0 dQ5_7 (pc' := 9) rfl (v := 90) rfl ?_
    by_cases c530 : (90 : Int32) < c1
    · skip
      refine g_icY W0 dQ5_9 (pc' := 17) (tlt c530).2.2.1 (by decide) (by decide) ?_
      refine g_iloadN W0 dQ5_17 (pc' := 18) rfl rfl ?_
      refine g_sipush W0 dQ5_18 (pc' := 21) rfl (v := 192) rfl ?_
      by_cases c531 : c1 < (192 : Int32)
      · skip
        refine g_icY W0 dQ5_21 (pc' := 43) (tlt c531).1 (by decide) (by decide) ?_
        refine g_iloadN W0 dQ5_43 (pc' := 44) rfl rfl ?_
        exact g_iret W0 dQ5_44 rfl (Or.inl rfl) rfl ⟨by simp [own_fold, c526, c530, c531], rfl⟩
      · skip
        refine g_icN W0 dQ5_21 (pc' := 24) (flt c531).1 rfl ?_
        refine g_iloadN W0 dQ5_24 (pc' := 25) rfl rfl ?_
        refine g_sipush W0 dQ5_25 (pc' := 28) rfl (v := 222) rfl ?_
        by_cases c532 : (222 : Int32) < c1
        · skip
          refine g_icY W0 dQ5_28 (pc' := 43) (tlt c532).2.2.1 (by decide) (by decide) ?_
          refine g_iloadN W0 dQ5_43 (pc' := 44) rfl rfl ?_
          exact g_iret W0 dQ5_44 rfl (Or.inl rfl) rfl ⟨by simp [own_fold, c526, c530, c531, c532], rfl⟩
        · skip
          refine g_icN W0 dQ5_28 (pc' := 31) (flt c532).2.2.1 rfl ?_
          refine g_iloadN W0 dQ5_31 (pc' := 32) rfl rfl ?_
          refine g_sipush W0 dQ5_32 (pc' := 35) rfl (v := 215) rfl ?_
          by_cases c533 : c1 = (215 : Int32)
          · skip
            refine g_icY W0 dQ5_35 (pc' := 43) (teq c533).1 (by decide) (by decide) ?_
            refine g_iloadN W0 dQ5_43 (pc' := 44) rfl rfl ?_
            exact g_iret W0 dQ5_44 rfl (Or.inl rfl) rfl ⟨by simp [own_fold, c526, c530, c531, c532, c533], rfl⟩
          · skip
            refine g_icN W0 dQ5_35 (pc' := 38) (feq c533).1 rfl ?_
            refine g_iloadN W0 dQ5_38 (pc' := 39) rfl rfl ?_
            refine g_bipush W0 dQ5_39 (pc' := 41) rfl (v := 32) rfl ?_
            refine g_iadd W0 dQ5_41 (pc' := 42) rfl ?_
            exact g_iret W0 dQ5_42 rfl (Or.inl rfl) rfl ⟨by simp [own_fold, c526, c530, c531, c532, c533], rfl⟩
    · skip
      refine g_icN W0 dQ5_9 (pc' := 12) (flt c530).2.2.1 rfl ?_
      refine g_iloadN W0 dQ5_12 (pc' := 13) rfl rfl ?_
      refine g_bipush W0 dQ5_13 (pc' := 15) rfl (v := 32) rfl ?_
      refine g_iadd W0 dQ5_15 (pc' := 16) rfl ?_
      exact g_iret W0 dQ5_16 rfl (Or.inl rfl) rfl ⟨by simp [own_fold, c526, c530], rfl⟩
set_option maxRecDepth 65536 in
set_option maxHeartbeats 4000000 in
theorem con_eqa0 (l : Launch) (Z : State) (a0 : Array Value) (hw : ∀ d ∈ tables_1, d.before a0 Z = true) (hEL : EW Z a0 consts_1) (a : Addr) (kC : ClassId) (x0 x1 x2 x3 : Int32) (h0 : Heap) (K : Arv Z h0 a kC .char 4 [(.int x0), (.int x1), (.int x2), (.int x3)] (.int 0)) (b : Addr) (kD : ClassId) (y0 y1 y2 y3 : Int32) (K2 : Arv Z h0 b kD .char 4 [(.int y0), (.int y1), (.int y2), (.int y3)] (.int 0)) (st len : Nat) (hl : st + len ≤ 4) :
    Ocon l Z consts_1 (⟨"com/example/skyhold/skyhold/SbiBodyIsTypePinLaw", "eqAt", "([CI[CII)Z"⟩ : MethodName) method_8_code 5 (some .boolean) [] ({ frames := 1, cells := 0, slots := 0, locals := 13 } : Room) #[(.ref a), (.int (Int32.ofNat st)), (.ref b), (.int (0 : Int32)), (.int (Int32.ofNat len))] h0 [] [] (fun v h _ => h0 = h ∧ ((v = some (.int 1) ∧ (0 < len → own_fold ([x0, x1, x2, x3].getD (st + 0) 0) = own_fold y0)) ∨ (v = some (.int 0) ∧ ¬ (0 < len → own_fold ([x0, x1, x2, x3].getD (st + 0) 0) = own_fold y0)))) := by
  refine own_con (a0 := a0) hEL (plainFor_of_name pn_com_example_skyhold_skyhold_SbiBodyIsTypePinLaw) ?_
  intro p e s m below meth c T hs W0
  have ef : entryFrame m #[(.ref a), (.int (Int32.ofNat st)), (.ref b), (.int (0 : Int32)), (.int (Int32.ofNat len))] 5 = mkF m 0 #[.val (.ref a), .val (.int (Int32.ofNat st)), .val (.ref b), .val (.int (0 : Int32)), .val (.int (Int32.ofNat len))] [] := by first | rfl | (simp [entryFrame, mkF, argsToLocals, Value.category]; done)
  rw [ef]
  refine g_iloadN W0 dQ4_0 (pc' := 1) rfl rfl ?_
  refine g_iload W0 dQ4_1 (pc' := 3) rfl rfl ?_
  by_cases c534 : (0 : Int32) < (Int32.ofNat len)
  · skip
    refine g_icN W0 dQ4_3 (pc' := 6) (tlt c534).2.1 rfl ?_
    refine g_aloadN W0 dQ4_6 (pc' := 7) rfl rfl rfl ?_
    refine g_iloadN W0 dQ4_7 (pc' := 8) rfl rfl ?_
    refine g_iloadN W0 dQ4_8 (pc' := 9) rfl rfl ?_
    refine g_iadd W0 dQ4_9 (pc' := 10) rfl ?_
    rw [show Int32.ofNat st + (0 : Int32) = Int32.ofNat (st + 0) from own_add st 0]
    have hjl : 0 < len := by
      rcases Nat.lt_or_ge 0 len with q | q
      · exact q
      · exact absurd c534 (own_nlt (i := 0) (by omega) q)
    refine g_caload W0 dQ4_10 (pc' := 11) rfl K (i := (st + 0)) rfl (by show _ < 4; omega) (v := (.int ([x0, x1, x2, x3].getD (st + 0) 0))) (own_getI [x0, x1, x2, x3] _ (by show _ < 4; omega)) ?_
    refine g_static W0 dQ4_11 (pc' := 14) rfl (hw _ (List.mem_of_getElem? (i := 124) rfl)) (hw _ (List.mem_of_getElem? (i := 125) rfl)) (hw _ (List.mem_of_getElem? (i := 3) rfl)) (hw _ (List.mem_of_getElem? (i := 126) rfl)) (by decide) (con_fold l Z a0 hw hEL ([x0, x1, x2, x3].getD (st + 0) 0) h0) pd__C_I (argsL := [(.int ([x0, x1, x2, x3].getD (st + 0) 0))]) (st := []) rfl rfl rfl rfl (by decide) (w := 0) (Nat.le_of_eq rfl) (by decide) (by decide) (by decide) (by simp) (fun q hq => nomatch hq) ?_
    intro v535 T536 h537 S540 q538 W541
    have W539 := W541.sf (SF' := []) (fun _ hx => List.mem_append_right _ hx)
    obtain ⟨rfl, rfl⟩ := q538
    refine g_aloadN W539 dQ4_14 (pc' := 15) rfl rfl rfl ?_
    refine g_iloadN W539 dQ4_15 (pc' := 16) rfl rfl ?_
    refine g_caload W539 dQ4_16 (pc' := 17) rfl K2 (i := 0) rfl (by decide) (v := (.int y0)) rfl ?_
    refine g_static W539 dQ4_17 (pc' := 20) rfl (hw _ (List.mem_of_getElem? (i := 124) rfl)) (hw _ (List.mem_of_getElem? (i := 125) rfl)) (hw _ (List.mem_of_getElem? (i := 3) rfl)) (hw _ (List.mem_of_getElem? (i := 126) rfl)) (by decide) (con_fold l Z a0 hw hEL y0 h0) pd__C_I (argsL := [(.int y0)]) (st := [(.int (own_fold ([x0, x1, x2, x3].getD (st + 0) 0)))]) rfl rfl rfl rfl (by decide) (w := 1) (Nat.le_of_eq rfl) (by decide) (by decide) (by decide) (by simp) (fun q hq => nomatch hq) ?_
    intro v542 T543 h544 S547 q545 W548
    have W546 := W548.sf (SF' := []) (fun _ hx => List.mem_append_right _ hx)
    obtain ⟨rfl, rfl⟩ := q545
    by_cases c549 : (own_fold ([x0, x1, x2, x3].getD (st + 0) 0)) = (own_fold y0)
    · skip
      refine g_icN W546 dQ4_20 (pc' := 23) (teq c549).2 rfl ?_
      refine g_iconst W546 dQ4_23 (pc' := 24) rfl (v := 1) rfl ?_
      refine g_goto W546 dQ4_24 (pc' := 28) (by decide) (by decide) ?_
      exact g_iret W546 dQ4_28 rfl (Or.inr (Or.inl rfl)) rfl ⟨rfl, Or.inl ⟨rfl, fun _ => c549⟩⟩
    · skip
      refine g_icY W546 dQ4_20 (pc' := 27) (feq c549).2 (by decide) (by decide) ?_
      refine g_iconst W546 dQ4_27 (pc' := 28) rfl (v := 0) rfl ?_
      exact g_iret W546 dQ4_28 rfl (Or.inr (Or.inl rfl)) rfl ⟨rfl, Or.inr ⟨rfl, fun z => c549 (z hjl)⟩⟩
  · skip
    refine g_icY W0 dQ4_3 (pc' := 23) (flt c534).2.1 (by decide) (by decide) ?_
    refine g_iconst W0 dQ4_23 (pc' := 24) rfl (v := 1) rfl ?_
    refine g_goto W0 dQ4_24 (pc' := 28) (by decide) (by decide) ?_
    exact g_iret W0 dQ4_28 rfl (Or.inr (Or.inl rfl)) rfl ⟨rfl, Or.inl ⟨rfl, fun z => absurd (own_lt (i := 0) (by omega) z) c534⟩⟩
set_option maxRecDepth 65536 in
set_option maxHeartbeats 4000000 in
theorem con_eqa1 (l : Launch) (Z : State) (a0 : Array Value) (hw : ∀ d ∈ tables_1, d.before a0 Z = true) (hEL : EW Z a0 consts_1) (a : Addr) (kC : ClassId) (x0 x1 x2 x3 : Int32) (h0 : Heap) (K : Arv Z h0 a kC .char 4 [(.int x0), (.int x1), (.int x2), (.int x3)] (.int 0)) (b : Addr) (kD : ClassId) (y0 y1 y2 y3 : Int32) (K2 : Arv Z h0 b kD .char 4 [(.int y0), (.int y1), (.int y2), (.int y3)] (.int 0)) (st len : Nat) (hl : st + len ≤ 4) :
    Ocon l Z consts_1 (⟨"com/example/skyhold/skyhold/SbiBodyIsTypePinLaw", "eqAt", "([CI[CII)Z"⟩ : MethodName) method_8_code 5 (some .boolean) [] ({ frames := 1, cells := 0, slots := 0, locals := 13 } : Room) #[(.ref a), (.int (Int32.ofNat st)), (.ref b), (.int (1 : Int32)), (.int (Int32.ofNat len))] h0 [] [] (fun v h _ => h0 = h ∧ ((v = some (.int 1) ∧ (1 < len → own_fold ([x0, x1, x2, x3].getD (st + 1) 0) = own_fold y1)) ∨ (v = some (.int 0) ∧ ¬ (1 < len → own_fold ([x0, x1, x2, x3].getD (st + 1) 0) = own_fold y1)))) := by
  refine own_con (a0 := a0) hEL (plainFor_of_name pn_com_example_skyhold_skyhold_SbiBodyIsTypePinLaw) ?_
  intro p e s m below meth c T hs W0
  have ef : entryFrame m #[(.ref a), (.int (Int32.ofNat st)), (.ref b), (.int (1 : Int32)), (.int (Int32.ofNat len))] 5 = mkF m 0 #[.val (.ref a), .val (.int (Int32.ofNat st)), .val (.ref b), .val (.int (1 : Int32)), .val (.int (Int32.ofNat len))] [] := by first | rfl | (simp [entryFrame, mkF, argsToLocals, Value.category]; done)
  rw [ef]
  refine g_iloadN W0 dQ4_0 (pc' := 1) rfl rfl ?_
  refine g_iload W0 dQ4_1 (pc' := 3) rfl rfl ?_
  by_cases c550 : (1 : Int32) < (Int32.ofNat len)
  · skip
    refine g_icN W0 dQ4_3 (pc' := 6) (tlt c550).2.1 rfl ?_
    refine g_aloadN W0 dQ4_6 (pc' := 7) rfl rfl rfl ?_
    refine g_iloadN W0 dQ4_7 (pc' := 8) rfl rfl ?_
    refine g_iloadN W0 dQ4_8 (pc' := 9) rfl rfl ?_
    refine g_iadd W0 dQ4_9 (pc' := 10) rfl ?_
    rw [show Int32.ofNat st + (1 : Int32) = Int32.ofNat (st + 1) from own_add st 1]
    have hjl : 1 < len := by
      rcases Nat.lt_or_ge 1 len with q | q
      · exact q
      · exact absurd c550 (own_nlt (i := 1) (by omega) q)
    refine g_caload W0 dQ4_10 (pc' := 11) rfl K (i := (st + 1)) rfl (by show _ < 4; omega) (v := (.int ([x0, x1, x2, x3].getD (st + 1) 0))) (own_getI [x0, x1, x2, x3] _ (by show _ < 4; omega)) ?_
    refine g_static W0 dQ4_11 (pc' := 14) rfl (hw _ (List.mem_of_getElem? (i := 124) rfl)) (hw _ (List.mem_of_getElem? (i := 125) rfl)) (hw _ (List.mem_of_getElem? (i := 3) rfl)) (hw _ (List.mem_of_getElem? (i := 126) rfl)) (by decide) (con_fold l Z a0 hw hEL ([x0, x1, x2, x3].getD (st + 1) 0) h0) pd__C_I (argsL := [(.int ([x0, x1, x2, x3].getD (st + 1) 0))]) (st := []) rfl rfl rfl rfl (by decide) (w := 0) (Nat.le_of_eq rfl) (by decide) (by decide) (by decide) (by simp) (fun q hq => nomatch hq) ?_
    intro v551 T552 h553 S556 q554 W557
    have W555 := W557.sf (SF' := []) (fun _ hx => List.mem_append_right _ hx)
    obtain ⟨rfl, rfl⟩ := q554
    refine g_aloadN W555 dQ4_14 (pc' := 15) rfl rfl rfl ?_
    refine g_iloadN W555 dQ4_15 (pc' := 16) rfl rfl ?_
    refine g_caload W555 dQ4_16 (pc' := 17) rfl K2 (i := 1) rfl (by decide) (v := (.int y1)) rfl ?_
    refine g_static W555 dQ4_17 (pc' := 20) rfl (hw _ (List.mem_of_getElem? (i := 124) rfl)) (hw _ (List.mem_of_getElem? (i := 125) rfl)) (hw _ (List.mem_of_getElem? (i := 3) rfl)) (hw _ (List.mem_of_getElem? (i := 126) rfl)) (by decide) (con_fold l Z a0 hw hEL y1 h0) pd__C_I (argsL := [(.int y1)]) (st := [(.int (own_fold ([x0, x1, x2, x3].getD (st + 1) 0)))]) rfl rfl rfl rfl (by decide) (w := 1) (Nat.le_of_eq rfl) (by decide) (by decide) (by decide) (by simp) (fun q hq => nomatch hq) ?_
    intro v558 T559 h560 S563 q561 W564
    have W562 := W564.sf (SF' := []) (fun _ hx => List.mem_append_right _ hx)
    obtain ⟨rfl, rfl⟩ := q561
    by_cases c565 : (own_fold ([x0, x1, x2, x3].getD (st + 1) 0)) = (own_fold y1)
    · skip
      refine g_icN W562 dQ4_20 (pc' := 23) (teq c565).2 rfl ?_
      refine g_iconst W562 dQ4_23 (pc' := 24) rfl (v := 1) rfl ?_
      refine g_goto W562 dQ4_24 (pc' := 28) (by decide) (by decide) ?_
      exact g_iret W562 dQ4_28 rfl (Or.inr (Or.inl rfl)) rfl ⟨rfl, Or.inl ⟨rfl, fun _ => c565⟩⟩
    · skip
      refine g_icY W562 dQ4_20 (pc' := 27) (feq c565).2 (by decide) (by decide) ?_
      refine g_iconst W562 dQ4_27 (pc' := 28) rfl (v := 0) rfl ?_
      exact g_iret W562 dQ4_28 rfl (Or.inr (Or.inl rfl)) rfl ⟨rfl, Or.inr ⟨rfl, fun z => c565 (z hjl)⟩⟩
  · skip
    refine g_icY W0 dQ4_3 (pc' := 23) (flt c550).2.1 (by decide) (by decide) ?_
    refine g_iconst W0 dQ4_23 (pc' := 24) rfl (v := 1) rfl ?_
    refine g_goto W0 dQ4_24 (pc' := 28) (by decide) (by decide) ?_
    exact g_iret W0 dQ4_28 rfl (Or.inr (Or.inl rfl)) rfl ⟨rfl, Or.inl ⟨rfl, fun z => absurd (own_lt (i := 1) (by omega) z) c550⟩⟩
set_option maxRecDepth 65536 in
set_option maxHeartbeats 4000000 in
theorem con_eqa2 (l : Launch) (Z : State) (a0 : Array Value) (hw : ∀ d ∈ tables_1, d.before a0 Z = true) (hEL : EW Z a0 consts_1) (a : Addr) (kC : ClassId) (x0 x1 x2 x3 : Int32) (h0 : Heap) (K : Arv Z h0 a kC .char 4 [(.int x0), (.int x1), (.int x2), (.int x3)] (.int 0)) (b : Addr) (kD : ClassId) (y0 y1 y2 y3 : Int32) (K2 : Arv Z h0 b kD .char 4 [(.int y0), (.int y1), (.int y2), (.int y3)] (.int 0)) (st len : Nat) (hl : st + len ≤ 4) :
    Ocon l Z consts_1 (⟨"com/example/skyhold/skyhold/SbiBodyIsTypePinLaw", "eqAt", "([CI[CII)Z"⟩ : MethodName) method_8_code 5 (some .boolean) [] ({ frames := 1, cells := 0, slots := 0, locals := 13 } : Room) #[(.ref a), (.int (Int32.ofNat st)), (.ref b), (.int (2 : Int32)), (.int (Int32.ofNat len))] h0 [] [] (fun v h _ => h0 = h ∧ ((v = some (.int 1) ∧ (2 < len → own_fold ([x0, x1, x2, x3].getD (st + 2) 0) = own_fold y2)) ∨ (v = some (.int 0) ∧ ¬ (2 < len → own_fold ([x0, x1, x2, x3].getD (st + 2) 0) = own_fold y2)))) := by
  refine own_con (a0 := a0) hEL (plainFor_of_name pn_com_example_skyhold_skyhold_SbiBodyIsTypePinLaw) ?_
  intro p e s m below meth c T hs W0
  have ef : entryFrame m #[(.ref a), (.int (Int32.ofNat st)), (.ref b), (.int (2 : Int32)), (.int (Int32.ofNat len))] 5 = mkF m 0 #[.val (.ref a), .val (.int (Int32.ofNat st)), .val (.ref b), .val (.int (2 : Int32)), .val (.int (Int32.ofNat len))] [] := by first | rfl | (simp [entryFrame, mkF, argsToLocals, Value.category]; done)
  rw [ef]
  refine g_iloadN W0 dQ4_0 (pc' := 1) rfl rfl ?_
  refine g_iload W0 dQ4_1 (pc' := 3) rfl rfl ?_
  by_cases c566 : (2 : Int32) < (Int32.ofNat len)
  · skip
    refine g_icN W0 dQ4_3 (pc' := 6) (tlt c566).2.1 rfl ?_
    refine g_aloadN W0 dQ4_6 (pc' := 7) rfl rfl rfl ?_
    refine g_iloadN W0 dQ4_7 (pc' := 8) rfl rfl ?_
    refine g_iloadN W0 dQ4_8 (pc' := 9) rfl rfl ?_
    refine g_iadd W0 dQ4_9 (pc' := 10) rfl ?_
    rw [show Int32.ofNat st + (2 : Int32) = Int32.ofNat (st + 2) from own_add st 2]
    have hjl : 2 < len := by
      rcases Nat.lt_or_ge 2 len with q | q
      · exact q
      · exact absurd c566 (own_nlt (i := 2) (by omega) q)
    refine g_caload W0 dQ4_10 (pc' := 11) rfl K (i := (st + 2)) rfl (by show _ < 4; omega) (v := (.int ([x0, x1, x2, x3].getD (st + 2) 0))) (own_getI [x0, x1, x2, x3] _ (by show _ < 4; omega)) ?_
    refine g_static W0 dQ4_11 (pc' := 14) rfl (hw _ (List.mem_of_getElem? (i := 124) rfl)) (hw _ (List.mem_of_getElem? (i := 125) rfl)) (hw _ (List.mem_of_getElem? (i := 3) rfl)) (hw _ (List.mem_of_getElem? (i := 126) rfl)) (by decide) (con_fold l Z a0 hw hEL ([x0, x1, x2, x3].getD (st + 2) 0) h0) pd__C_I (argsL := [(.int ([x0, x1, x2, x3].getD (st + 2) 0))]) (st := []) rfl rfl rfl rfl (by decide) (w := 0) (Nat.le_of_eq rfl) (by decide) (by decide) (by decide) (by simp) (fun q hq => nomatch hq) ?_
    intro v567 T568 h569 S572 q570 W573
    have W571 := W573.sf (SF' := []) (fun _ hx => List.mem_append_right _ hx)
    obtain ⟨rfl, rfl⟩ := q570
    refine g_aloadN W571 dQ4_14 (pc' := 15) rfl rfl rfl ?_
    refine g_iloadN W571 dQ4_15 (pc' := 16) rfl rfl ?_
    refine g_caload W571 dQ4_16 (pc' := 17) rfl K2 (i := 2) rfl (by decide) (v := (.int y2)) rfl ?_
    refine g_static W571 dQ4_17 (pc' := 20) rfl (hw _ (List.mem_of_getElem? (i := 124) rfl)) (hw _ (List.mem_of_getElem? (i := 125) rfl)) (hw _ (List.mem_of_getElem? (i := 3) rfl)) (hw _ (List.mem_of_getElem? (i := 126) rfl)) (by decide) (con_fold l Z a0 hw hEL y2 h0) pd__C_I (argsL := [(.int y2)]) (st := [(.int (own_fold ([x0, x1, x2, x3].getD (st + 2) 0)))]) rfl rfl rfl rfl (by decide) (w := 1) (Nat.le_of_eq rfl) (by decide) (by decide) (by decide) (by simp) (fun q hq => nomatch hq) ?_
    intro v574 T575 h576 S579 q577 W580
    have W578 := W580.sf (SF' := []) (fun _ hx => List.mem_append_right _ hx)
    obtain ⟨rfl, rfl⟩ := q577
    by_cases c581 : (own_fold ([x0, x1, x2, x3].getD (st + 2) 0)) = (own_fold y2)
    · skip
      refine g_icN W578 dQ4_20 (pc' := 23) (teq c581).2 rfl ?_
      refine g_iconst W578 dQ4_23 (pc' := 24) rfl (v := 1) rfl ?_
      refine g_goto W578 dQ4_24 (pc' := 28) (by decide) (by decide) ?_
      exact g_iret W578 dQ4_28 rfl (Or.inr (Or.inl rfl)) rfl ⟨rfl, Or.inl ⟨rfl, fun _ => c581⟩⟩
    · skip
      refine g_icY W578 dQ4_20 (pc' := 27) (feq c581).2 (by decide) (by decide) ?_
      refine g_iconst W578 dQ4_27 (pc' := 28) rfl (v := 0) rfl ?_
      exact g_iret W578 dQ4_28 rfl (Or.inr (Or.inl rfl)) rfl ⟨rfl, Or.inr ⟨rfl, fun z => c581 (z hjl)⟩⟩
  · skip
    refine g_icY W0 dQ4_3 (pc' := 23) (flt c566).2.1 (by decide) (by decide) ?_
    refine g_iconst W0 dQ4_23 (pc' := 24) rfl (v := 1) rfl ?_
    refine g_goto W0 dQ4_24 (pc' := 28) (by decide) (by decide) ?_
    exact g_iret W0 dQ4_28 rfl (Or.inr (Or.inl rfl)) rfl ⟨rfl, Or.inl ⟨rfl, fun z => absurd (own_lt (i := 2) (by omega) z) c566⟩⟩
set_option maxRecDepth 65536 in
set_option maxHeartbeats 4000000 in
theorem con_eqa3 (l : Launch) (Z : State) (a0 : Array Value) (hw : ∀ d ∈ tables_1, d.before a0 Z = true) (hEL : EW Z a0 consts_1) (a : Addr) (kC : ClassId) (x0 x1 x2 x3 : Int32) (h0 : Heap) (K : Arv Z h0 a kC .char 4 [(.int x0), (.int x1), (.int x2), (.int x3)] (.int 0)) (b : Addr) (kD : ClassId) (y0 y1 y2 y3 : Int32) (K2 : Arv Z h0 b kD .char 4 [(.int y0), (.int y1), (.int y2), (.int y3)] (.int 0)) (st len : Nat) (hl : st + len ≤ 4) :
    Ocon l Z consts_1 (⟨"com/example/skyhold/skyhold/SbiBodyIsTypePinLaw", "eqAt", "([CI[CII)Z"⟩ : MethodName) method_8_code 5 (some .boolean) [] ({ frames := 1, cells := 0, slots := 0, locals := 13 } : Room) #[(.ref a), (.int (Int32.ofNat st)), (.ref b), (.int (3 : Int32)), (.int (Int32.ofNat len))] h0 [] [] (fun v h _ => h0 = h ∧ ((v = some (.int 1) ∧ (3 < len → own_fold ([x0, x1, x2, x3].getD (st + 3) 0) = own_fold y3)) ∨ (v = some (.int 0) ∧ ¬ (3 < len → own_fold ([x0, x1, x2, x3].getD (st + 3) 0) = own_fold y3)))) := by
  refine own_con (a0 := a0) hEL (plainFor_of_name pn_com_example_skyhold_skyhold_SbiBodyIsTypePinLaw) ?_
  intro p e s m below meth c T hs W0
  have ef : entryFrame m #[(.ref a), (.int (Int32.ofNat st)), (.ref b), (.int (3 : Int32)), (.int (Int32.ofNat len))] 5 = mkF m 0 #[.val (.ref a), .val (.int (Int32.ofNat st)), .val (.ref b), .val (.int (3 : Int32)), .val (.int (Int32.ofNat len))] [] := by first | rfl | (simp [entryFrame, mkF, argsToLocals, Value.category]; done)
  rw [ef]
  refine g_iloadN W0 dQ4_0 (pc' := 1) rfl rfl ?_
  refine g_iload W0 dQ4_1 (pc' := 3) rfl rfl ?_
  by_cases c582 : (3 : Int32) < (Int32.ofNat len)
  · skip
    refine g_icN W0 dQ4_3 (pc' := 6) (tlt c582).2.1 rfl ?_
    refine g_aloadN W0 dQ4_6 (pc' := 7) rfl rfl rfl ?_
    refine g_iloadN W0 dQ4_7 (pc' := 8) rfl rfl ?_
    refine g_iloadN W0 dQ4_8 (pc' := 9) rfl rfl ?_
    refine g_iadd W0 dQ4_9 (pc' := 10) rfl ?_
    rw [show Int32.ofNat st + (3 : Int32) = Int32.ofNat (st + 3) from own_add st 3]
    have hjl : 3 < len := by
      rcases Nat.lt_or_ge 3 len with q | q
      · exact q
      · exact absurd c582 (own_nlt (i := 3) (by omega) q)
    refine g_caload W0 dQ4_10 (pc' := 11) rfl K (i := (st + 3)) rfl (by show _ < 4; omega) (v := (.int ([x0, x1, x2, x3].getD (st + 3) 0))) (own_getI [x0, x1, x2, x3] _ (by show _ < 4; omega)) ?_
    refine g_static W0 dQ4_11 (pc' := 14) rfl (hw _ (List.mem_of_getElem? (i := 124) rfl)) (hw _ (List.mem_of_getElem? (i := 125) rfl)) (hw _ (List.mem_of_getElem? (i := 3) rfl)) (hw _ (List.mem_of_getElem? (i := 126) rfl)) (by decide) (con_fold l Z a0 hw hEL ([x0, x1, x2, x3].getD (st + 3) 0) h0) pd__C_I (argsL := [(.int ([x0, x1, x2, x3].getD (st + 3) 0))]) (st := []) rfl rfl rfl rfl (by decide) (w := 0) (Nat.le_of_eq rfl) (by decide) (by decide) (by decide) (by simp) (fun q hq => nomatch hq) ?_
    intro v583 T584 h585 S588 q586 W589
    have W587 := W589.sf (SF' := []) (fun _ hx => List.mem_append_right _ hx)
    obtain ⟨rfl, rfl⟩ := q586
    refine g_aloadN W587 dQ4_14 (pc' := 15) rfl rfl rfl ?_
    refine g_iloadN W587 dQ4_15 (pc' := 16) rfl rfl ?_
    refine g_caload W587 dQ4_16 (pc' := 17) rfl K2 (i := 3) rfl (by decide) (v := (.int y3)) rfl ?_
    refine g_static W587 dQ4_17 (pc' := 20) rfl (hw _ (List.mem_of_getElem? (i := 124) rfl)) (hw _ (List.mem_of_getElem? (i := 125) rfl)) (hw _ (List.mem_of_getElem? (i := 3) rfl)) (hw _ (List.mem_of_getElem? (i := 126) rfl)) (by decide) (con_fold l Z a0 hw hEL y3 h0) pd__C_I (argsL := [(.int y3)]) (st := [(.int (own_fold ([x0, x1, x2, x3].getD (st + 3) 0)))]) rfl rfl rfl rfl (by decide) (w := 1) (Nat.le_of_eq rfl) (by decide) (by decide) (by decide) (by simp) (fun q hq => nomatch hq) ?_
    intro v590 T591 h592 S595 q593 W596
    have W594 := W596.sf (SF' := []) (fun _ hx => List.mem_append_right _ hx)
    obtain ⟨rfl, rfl⟩ := q593
    by_cases c597 : (own_fold ([x0, x1, x2, x3].getD (st + 3) 0)) = (own_fold y3)
    · skip
      refine g_icN W594 dQ4_20 (pc' := 23) (teq c597).2 rfl ?_
      refine g_iconst W594 dQ4_23 (pc' := 24) rfl (v := 1) rfl ?_
      refine g_goto W594 dQ4_24 (pc' := 28) (by decide) (by decide) ?_
      exact g_iret W594 dQ4_28 rfl (Or.inr (Or.inl rfl)) rfl ⟨rfl, Or.inl ⟨rfl, fun _ => c597⟩⟩
    · skip
      refine g_icY W594 dQ4_20 (pc' := 27) (feq c597).2 (by decide) (by decide) ?_
      refine g_iconst W594 dQ4_27 (pc' := 28) rfl (v := 0) rfl ?_
      exact g_iret W594 dQ4_28 rfl (Or.inr (Or.inl rfl)) rfl ⟨rfl, Or.inr ⟨rfl, fun z => c597 (z hjl)⟩⟩
  · skip
    refine g_icY W0 dQ4_3 (pc' := 23) (flt c582).2.1 (by decide) (by decide) ?_
    refine g_iconst W0 dQ4_23 (pc' := 24) rfl (v := 1) rfl ?_
    refine g_goto W0 dQ4_24 (pc' := 28) (by decide) (by decide) ?_
    exact g_iret W0 dQ4_28 rfl (Or.inr (Or.inl rfl)) rfl ⟨rfl, Or.inl ⟨rfl, fun z => absurd (own_lt (i := 3) (by omega) z) c582⟩⟩
set_option maxRecDepth 65536 in
set_option maxHeartbeats 4000000 in
theorem con_mk (l : Launch) (Z : State) (a0 : Array Value) (hw : ∀ d ∈ tables_1, d.before a0 Z = true) (hEL : EW Z a0 consts_1) (a : Addr) (kC : ClassId) (x0 x1 x2 x3 : Int32) (h0 : Heap) (K : Arv Z h0 a kC .char 4 [(.int x0), (.int x1), (.int x2), (.int x3)] (.int 0)) (n : Nat) (hn : n ≤ 4) (zc : Int32) (SC : Sta Z Z.heap "java/lang/String" "COMPACT_STRINGS" "Z" (.int zc)) (hzc : ¬ zc = 0) (O : Ext Z.heap h0) (hb : ∀ c ∈ [x0, x1, x2, x3], ¬ c < 0 ∧ ¬ (255 : Int32) < c) :
    Ocon l Z consts_1 (⟨"com/example/skyhold/skyhold/SbiBodyIsTypePinLaw", "mk", "([CI)Ljava/lang/String;"⟩ : MethodName) method_3_code 2 (some (.object "java/lang/String")) [] ({ frames := 4, cells := 6, slots := 20, locals := 66 } : Room) #[(.ref a), (.int (Int32.ofNat n))] h0 [] [] (fun v h _ => ∃ y, v = some (.ref y) ∧ Ext h0 h ∧ OLat Z h y ([x0, x1, x2, x3].take n)) := by
  refine own_con (a0 := a0) hEL (plainFor_of_name pn_com_example_skyhold_skyhold_SbiBodyIsTypePinLaw) ?_
  intro p e s m below meth c T hs W0
  obtain rfl | rfl | rfl | rfl | rfl : n = 0 ∨ n = 1 ∨ n = 2 ∨ n = 3 ∨ n = 4 := by omega
  · skip
    have ef : entryFrame m #[(.ref a), (.int (Int32.ofNat 0))] 2 = mkF m 0 #[.val (.ref a), .val (.int (0 : Int32))] [] := by first | rfl | (simp [entryFrame, mkF, argsToLocals, Value.category]; done)
    rw [ef]
    refine g_iloadN W0 dQ0_0 (pc' := 1) rfl rfl ?_
    refine g_ifN W0 dQ0_1 (pc' := 4) (teq (by decide : (0 : Int32) = (0 : Int32))).2 rfl ?_
    refine g_new W0 dQ0_4 (pc' := 7) rfl (hw _ (List.mem_of_getElem? (i := 5) rfl)) (hw _ (List.mem_of_getElem? (i := 6) rfl)) (hw _ (List.mem_of_getElem? (i := 7) rfl)) (by decide) (by decide) ?_
    intro T598 h599 E600 A601 D602 U603 W604
    obtain ⟨a605, g606⟩ : ∃ z, z = h0.size := ⟨_, rfl⟩
    rw [← g606] at A601 D602 U603 W604 ⊢
    have nxa605 : s.heap.size ≤ a605 := by rw [g606]; exact W0.grown
    have zxa605 : Z.heap.size ≤ a605 := by rw [g606]; exact O.1
    refine g_dup W604 dQ0_7 (pc' := 8) rfl rfl ?_
    refine g_iconst W604 dQ0_8 (pc' := 9) rfl (v := 0) rfl ?_
    refine g_newP W604 dQ0_9 (pc' := 11) (cap := 0) rfl (ty := .char) (dv := (.int 0)) rfl rfl (hw _ (List.mem_of_getElem? (i := 0) rfl)) (by decide) (by decide) (by decide) (by decide) (by decide) ?_
    intro T607 h608 cA609 E610 A611 W612
    obtain ⟨a613, g614⟩ : ∃ z, z = h599.size := ⟨_, rfl⟩
    rw [← g614] at A611 W612 ⊢
    have naa613 : s.heap.size ≤ a613 := by rw [g614]; exact W604.grown
    have X615 := own_ext_tr E600 E610
    have H616 : ∀ c ∈ ([] : List Int32), ¬ c < 0 ∧ ¬ (255 : Int32) < c := own_btake 0 hb
    refine g_special W612 dQ0_11 (pc' := 14) rfl rfl (hw _ (List.mem_of_getElem? (i := 8) rfl)) (hw _ (List.mem_of_getElem? (i := 9) rfl)) (hw _ (List.mem_of_getElem? (i := 7) rfl)) (hw _ (List.mem_of_getElem? (i := 10) rfl)) (by decide) (con_new1 l Z a0 hw hEL a605 a613 _ [] _ _ _ zc 0 h608 (own_ext_tr O X615) (fun c hc => (H616 c hc).2) zxa605 rfl (by decide) (A601.ext E610) ((D602 (Or.inr (hw _ (List.mem_of_getElem? (i := 33) rfl))) (ty := .array .byte) (by decide)).ext E610) ((D602 (Or.inr (hw _ (List.mem_of_getElem? (i := 31) rfl))) (ty := .byte) (by decide)).ext E610) (own_pad0 0 A611) (own_b16 H616) SC hzc) pd___C_V (argsL := [(.ref a613)]) (st := [(.ref a605)]) rfl rfl rfl rfl (by decide) (w := 1) (Nat.le_of_eq rfl) (by decide) (by decide) (by decide) (by simp) (fun q hq => Or.inr (by rcases List.mem_cons.mp hq with rfl | hq; exact nxa605; cases List.mem_singleton.mp hq; exact nxa605)) ?_
    intro v617 T618 h619 S622 q620 W623
    have W621 := W623.sf (SF' := [a613, a605]) (fun _ hx => List.mem_append_right _ hx)
    obtain ⟨rfl, K624, S625⟩ := q620
    have Y626 := own_ext_keep X615 K624 (by intro y hy; rw [List.mem_singleton.mp hy, g606]; exact Nat.le_refl _)
    exact g_aret W621 dQ0_14 rfl rfl rfl rfl ⟨a605, rfl, Y626, OLat.of S625 H616⟩
  · skip
    have ef : entryFrame m #[(.ref a), (.int (Int32.ofNat 1))] 2 = mkF m 0 #[.val (.ref a), .val (.int (1 : Int32))] [] := by first | rfl | (simp [entryFrame, mkF, argsToLocals, Value.category]; done)
    rw [ef]
    refine g_iloadN W0 dQ0_0 (pc' := 1) rfl rfl ?_
    refine g_ifY W0 dQ0_1 (pc' := 15) (feq (by decide : ¬ ((1 : Int32) = (0 : Int32)))).2 (by decide) (by decide) ?_
    refine g_iloadN W0 dQ0_15 (pc' := 16) rfl rfl ?_
    refine g_iconst W0 dQ0_16 (pc' := 17) rfl (v := 1) rfl ?_
    refine g_icN W0 dQ0_17 (pc' := 20) (teq (by decide : (1 : Int32) = (1 : Int32))).2 rfl ?_
    refine g_new W0 dQ0_20 (pc' := 23) rfl (hw _ (List.mem_of_getElem? (i := 5) rfl)) (hw _ (List.mem_of_getElem? (i := 6) rfl)) (hw _ (List.mem_of_getElem? (i := 7) rfl)) (by decide) (by decide) ?_
    intro T627 h628 E629 A630 D631 U632 W633
    obtain ⟨a634, g635⟩ : ∃ z, z = h0.size := ⟨_, rfl⟩
    rw [← g635] at A630 D631 U632 W633 ⊢
    have nxa634 : s.heap.size ≤ a634 := by rw [g635]; exact W0.grown
    have zxa634 : Z.heap.size ≤ a634 := by rw [g635]; exact O.1
    refine g_dup W633 dQ0_23 (pc' := 24) rfl rfl ?_
    refine g_iconst W633 dQ0_24 (pc' := 25) rfl (v := 1) rfl ?_
    refine g_newP W633 dQ0_25 (pc' := 27) (cap := 1) rfl (ty := .char) (dv := (.int 0)) rfl rfl (hw _ (List.mem_of_getElem? (i := 0) rfl)) (by decide) (by decide) (by decide) (by decide) (by decide) ?_
    intro T636 h637 cA638 E639 A640 W641
    obtain ⟨a642, g643⟩ : ∃ z, z = h628.size := ⟨_, rfl⟩
    rw [← g643] at A640 W641 ⊢
    have naa642 : s.heap.size ≤ a642 := by rw [g643]; exact W633.grown
    refine g_dup W641 dQ0_27 (pc' := 28) rfl rfl ?_
    refine g_iconst W641 dQ0_28 (pc' := 29) rfl (v := 0) rfl ?_
    refine g_aloadN W641 dQ0_29 (pc' := 30) rfl rfl rfl ?_
    refine g_iconst W641 dQ0_30 (pc' := 31) rfl (v := 0) rfl ?_
    refine g_caload W641 dQ0_31 (pc' := 32) rfl ((K.ext E629).ext E639) (i := 0) rfl (by decide) (v := (.int x0)) rfl ?_
    refine g_castore W641 dQ0_32 (pc' := 33) rfl (own_pad0 1 A640) (i := 0) rfl (by decide) (by first | decide | simp) (y := x0) (own_nar8 (hb x0 (by simp))) (vs' := [(.int x0)]) rfl (by simp) (Or.inr naa642) ?_
    intro T644 h645 w646 A647 W648
    have X649 := own_ext_wr E639 w646 (by rw [g643]; exact Nat.le_refl _)
    have X650 := own_ext_tr E629 X649
    have H651 : ∀ c ∈ ([x0] : List Int32), ¬ c < 0 ∧ ¬ (255 : Int32) < c := own_btake 1 hb
    refine g_special W648 dQ0_33 (pc' := 36) rfl rfl (hw _ (List.mem_of_getElem? (i := 8) rfl)) (hw _ (List.mem_of_getElem? (i := 9) rfl)) (hw _ (List.mem_of_getElem? (i := 7) rfl)) (hw _ (List.mem_of_getElem? (i := 10) rfl)) (by decide) (con_new1 l Z a0 hw hEL a634 a642 _ [x0] _ _ _ zc 1 h645 (own_ext_tr O X650) (fun c hc => (H651 c hc).2) zxa634 rfl (by decide) (A630.ext X649) ((D631 (Or.inr (hw _ (List.mem_of_getElem? (i := 33) rfl))) (ty := .array .byte) (by decide)).ext X649) ((D631 (Or.inr (hw _ (List.mem_of_getElem? (i := 31) rfl))) (ty := .byte) (by decide)).ext X649) A647 (own_b16 H651) SC hzc) pd___C_V (argsL := [(.ref a642)]) (st := [(.ref a634)]) rfl rfl rfl rfl (by decide) (w := 1) (Nat.le_of_eq rfl) (by decide) (by decide) (by decide) (by simp) (fun q hq => Or.inr (by rcases List.mem_cons.mp hq with rfl | hq; exact nxa634; cases List.mem_singleton.mp hq; exact nxa634)) ?_
    intro v652 T653 h654 S657 q655 W658
    have W656 := W658.sf (SF' := [a642, a634]) (fun _ hx => List.mem_append_right _ hx)
    obtain ⟨rfl, K659, S660⟩ := q655
    have Y661 := own_ext_keep X650 K659 (by intro y hy; rw [List.mem_singleton.mp hy, g635]; exact Nat.le_refl _)
    exact g_aret W656 dQ0_36 rfl rfl rfl rfl ⟨a634, rfl, Y661, OLat.of S660 H651⟩
  · skip
    have ef : entryFrame m #[(.ref a), (.int (Int32.ofNat 2))] 2 = mkF m 0 #[.val (.ref a), .val (.int (2 : Int32))] [] := by first | rfl | (simp [entryFrame, mkF, argsToLocals, Value.category]; done)
    rw [ef]
    refine g_iloadN W0 dQ0_0 (pc' := 1) rfl rfl ?_
    refine g_ifY W0 dQ0_1 (pc' := 15) (feq (by decide : ¬ ((2 : Int32) = (0 : Int32)))).2 (by decide) (by decide) ?_
    refine g_iloadN W0 dQ0_15 (pc' := 16) rfl rfl ?_
    refine g_iconst W0 dQ0_16 (pc' := 17) rfl (v := 1) rfl ?_
    refine g_icY W0 dQ0_17 (pc' := 37) (feq (by decide : ¬ ((2 : Int32) = (1 : Int32)))).2 (by decide) (by decide) ?_
    refine g_iloadN W0 dQ0_37 (pc' := 38) rfl rfl ?_
    refine g_iconst W0 dQ0_38 (pc' := 39) rfl (v := 2) rfl ?_
    refine g_icN W0 dQ0_39 (pc' := 42) (teq (by decide : (2 : Int32) = (2 : Int32))).2 rfl ?_
    refine g_new W0 dQ0_42 (pc' := 45) rfl (hw _ (List.mem_of_getElem? (i := 5) rfl)) (hw _ (List.mem_of_getElem? (i := 6) rfl)) (hw _ (List.mem_of_getElem? (i := 7) rfl)) (by decide) (by decide) ?_
    intro T662 h663 E664 A665 D666 U667 W668
    obtain ⟨a669, g670⟩ : ∃ z, z = h0.size := ⟨_, rfl⟩
    rw [← g670] at A665 D666 U667 W668 ⊢
    have nxa669 : s.heap.size ≤ a669 := by rw [g670]; exact W0.grown
    have zxa669 : Z.heap.size ≤ a669 := by rw [g670]; exact O.1
    refine g_dup W668 dQ0_45 (pc' := 46) rfl rfl ?_
    refine g_iconst W668 dQ0_46 (pc' := 47) rfl (v := 2) rfl ?_
    refine g_newP W668 dQ0_47 (pc' := 49) (cap := 2) rfl (ty := .char) (dv := (.int 0)) rfl rfl (hw _ (List.mem_of_getElem? (i := 0) rfl)) (by decide) (by decide) (by decide) (by decide) (by decide) ?_
    intro T671 h672 cA673 E674 A675 W676
    obtain ⟨a677, g678⟩ : ∃ z, z = h663.size := ⟨_, rfl⟩
    rw [← g678] at A675 W676 ⊢
    have naa677 : s.heap.size ≤ a677 := by rw [g678]; exact W668.grown
    refine g_dup W676 dQ0_49 (pc' := 50) rfl rfl ?_
    refine g_iconst W676 dQ0_50 (pc' := 51) rfl (v := 0) rfl ?_
    refine g_aloadN W676 dQ0_51 (pc' := 52) rfl rfl rfl ?_
    refine g_iconst W676 dQ0_52 (pc' := 53) rfl (v := 0) rfl ?_
    refine g_caload W676 dQ0_53 (pc' := 54) rfl ((K.ext E664).ext E674) (i := 0) rfl (by decide) (v := (.int x0)) rfl ?_
    refine g_castore W676 dQ0_54 (pc' := 55) rfl (own_pad0 2 A675) (i := 0) rfl (by decide) (by first | decide | simp) (y := x0) (own_nar8 (hb x0 (by simp))) (vs' := [(.int x0), (.int (0 : Int32))]) rfl (by simp) (Or.inr naa677) ?_
    intro T679 h680 w681 A682 W683
    have X684 := own_ext_wr E674 w681 (by rw [g678]; exact Nat.le_refl _)
    refine g_dup W683 dQ0_55 (pc' := 56) rfl rfl ?_
    refine g_iconst W683 dQ0_56 (pc' := 57) rfl (v := 1) rfl ?_
    refine g_aloadN W683 dQ0_57 (pc' := 58) rfl rfl rfl ?_
    refine g_iconst W683 dQ0_58 (pc' := 59) rfl (v := 1) rfl ?_
    refine g_caload W683 dQ0_59 (pc' := 60) rfl ((K.ext E664).ext X684) (i := 1) rfl (by decide) (v := (.int x1)) rfl ?_
    refine g_castore W683 dQ0_60 (pc' := 61) rfl A682 (i := 1) rfl (by decide) (by first | decide | simp) (y := x1) (own_nar8 (hb x1 (by simp))) (vs' := [(.int x0), (.int x1)]) rfl (by simp) (Or.inr naa677) ?_
    intro T685 h686 w687 A688 W689
    have X690 := own_ext_wr X684 w687 (by rw [g678]; exact Nat.le_refl _)
    have X691 := own_ext_tr E664 X690
    have H692 : ∀ c ∈ ([x0, x1] : List Int32), ¬ c < 0 ∧ ¬ (255 : Int32) < c := own_btake 2 hb
    refine g_special W689 dQ0_61 (pc' := 64) rfl rfl (hw _ (List.mem_of_getElem? (i := 8) rfl)) (hw _ (List.mem_of_getElem? (i := 9) rfl)) (hw _ (List.mem_of_getElem? (i := 7) rfl)) (hw _ (List.mem_of_getElem? (i := 10) rfl)) (by decide) (con_new1 l Z a0 hw hEL a669 a677 _ [x0, x1] _ _ _ zc 2 h686 (own_ext_tr O X691) (fun c hc => (H692 c hc).2) zxa669 rfl (by decide) (A665.ext X690) ((D666 (Or.inr (hw _ (List.mem_of_getElem? (i := 33) rfl))) (ty := .array .byte) (by decide)).ext X690) ((D666 (Or.inr (hw _ (List.mem_of_getElem? (i := 31) rfl))) (ty := .byte) (by decide)).ext X690) A688 (own_b16 H692) SC hzc) pd___C_V (argsL := [(.ref a677)]) (st := [(.ref a669)]) rfl rfl rfl rfl (by decide) (w := 1) (Nat.le_of_eq rfl) (by decide) (by decide) (by decide) (by simp) (fun q hq => Or.inr (by rcases List.mem_cons.mp hq with rfl | hq; exact nxa669; cases List.mem_singleton.mp hq; exact nxa669)) ?_
    intro v693 T694 h695 S698 q696 W699
    have W697 := W699.sf (SF' := [a677, a669]) (fun _ hx => List.mem_append_right _ hx)
    obtain ⟨rfl, K700, S701⟩ := q696
    have Y702 := own_ext_keep X691 K700 (by intro y hy; rw [List.mem_singleton.mp hy, g670]; exact Nat.le_refl _)
    exact g_aret W697 dQ0_64 rfl rfl rfl rfl ⟨a669, rfl, Y702, OLat.of S701 H692⟩
  · skip
    have ef : entryFrame m #[(.ref a), (.int (Int32.ofNat 3))] 2 = mkF m 0 #[.val (.ref a), .val (.int (3 : Int32))] [] := by first | rfl | (simp [entryFrame, mkF, argsToLocals, Value.category]; done)
    rw [ef]
    refine g_iloadN W0 dQ0_0 (pc' := 1) rfl rfl ?_
    refine g_ifY W0 dQ0_1 (pc' := 15) (feq (by decide : ¬ ((3 : Int32) = (0 : Int32)))).2 (by decide) (by decide) ?_
    refine g_iloadN W0 dQ0_15 (pc' := 16) rfl rfl ?_
    refine g_iconst W0 dQ0_16 (pc' := 17) rfl (v := 1) rfl ?_
    refine g_icY W0 dQ0_17 (pc' := 37) (feq (by decide : ¬ ((3 : Int32) = (1 : Int32)))).2 (by decide) (by decide) ?_
    refine g_iloadN W0 dQ0_37 (pc' := 38) rfl rfl ?_
    refine g_iconst W0 dQ0_38 (pc' := 39) rfl (v := 2) rfl ?_
    refine g_icY W0 dQ0_39 (pc' := 65) (feq (by decide : ¬ ((3 : Int32) = (2 : Int32)))).2 (by decide) (by decide) ?_
    refine g_iloadN W0 dQ0_65 (pc' := 66) rfl rfl ?_
    refine g_iconst W0 dQ0_66 (pc' := 67) rfl (v := 3) rfl ?_
    refine g_icN W0 dQ0_67 (pc' := 70) (teq (by decide : (3 : Int32) = (3 : Int32))).2 rfl ?_
    refine g_new W0 dQ0_70 (pc' := 73) rfl (hw _ (List.mem_of_getElem? (i := 5) rfl)) (hw _ (List.mem_of_getElem? (i := 6) rfl)) (hw _ (List.mem_of_getElem? (i := 7) rfl)) (by decide) (by decide) ?_
    intro T703 h704 E705 A706 D707 U708 W709
    obtain ⟨a710, g711⟩ : ∃ z, z = h0.size := ⟨_, rfl⟩
    rw [← g711] at A706 D707 U708 W709 ⊢
    have nxa710 : s.heap.size ≤ a710 := by rw [g711]; exact W0.grown
    have zxa710 : Z.heap.size ≤ a710 := by rw [g711]; exact O.1
    refine g_dup W709 dQ0_73 (pc' := 74) rfl rfl ?_
    refine g_iconst W709 dQ0_74 (pc' := 75) rfl (v := 3) rfl ?_
    refine g_newP W709 dQ0_75 (pc' := 77) (cap := 3) rfl (ty := .char) (dv := (.int 0)) rfl rfl (hw _ (List.mem_of_getElem? (i := 0) rfl)) (by decide) (by decide) (by decide) (by decide) (by decide) ?_
    intro T712 h713 cA714 E715 A716 W717
    obtain ⟨a718, g719⟩ : ∃ z, z = h704.size := ⟨_, rfl⟩
    rw [← g719] at A716 W717 ⊢
    have naa718 : s.heap.size ≤ a718 := by rw [g719]; exact W709.grown
    refine g_dup W717 dQ0_77 (pc' := 78) rfl rfl ?_
    refine g_iconst W717 dQ0_78 (pc' := 79) rfl (v := 0) rfl ?_
    refine g_aloadN W717 dQ0_79 (pc' := 80) rfl rfl rfl ?_
    refine g_iconst W717 dQ0_80 (pc' := 81) rfl (v := 0) rfl ?_
    refine g_caload W717 dQ0_81 (pc' := 82) rfl ((K.ext E705).ext E715) (i := 0) rfl (by decide) (v := (.int x0)) rfl ?_
    refine g_castore W717 dQ0_82 (pc' := 83) rfl (own_pad0 3 A716) (i := 0) rfl (by decide) (by first | decide | simp) (y := x0) (own_nar8 (hb x0 (by simp))) (vs' := [(.int x0), (.int (0 : Int32)), (.int (0 : Int32))]) rfl (by simp) (Or.inr naa718) ?_
    intro T720 h721 w722 A723 W724
    have X725 := own_ext_wr E715 w722 (by rw [g719]; exact Nat.le_refl _)
    refine g_dup W724 dQ0_83 (pc' := 84) rfl rfl ?_
    refine g_iconst W724 dQ0_84 (pc' := 85) rfl (v := 1) rfl ?_
    refine g_aloadN W724 dQ0_85 (pc' := 86) rfl rfl rfl ?_
    refine g_iconst W724 dQ0_86 (pc' := 87) rfl (v := 1) rfl ?_
    refine g_caload W724 dQ0_87 (pc' := 88) rfl ((K.ext E705).ext X725) (i := 1) rfl (by decide) (v := (.int x1)) rfl ?_
    refine g_castore W724 dQ0_88 (pc' := 89) rfl A723 (i := 1) rfl (by decide) (by first | decide | simp) (y := x1) (own_nar8 (hb x1 (by simp))) (vs' := [(.int x0), (.int x1), (.int (0 : Int32))]) rfl (by simp) (Or.inr naa718) ?_
    intro T726 h727 w728 A729 W730
    have X731 := own_ext_wr X725 w728 (by rw [g719]; exact Nat.le_refl _)
    refine g_dup W730 dQ0_89 (pc' := 90) rfl rfl ?_
    refine g_iconst W730 dQ0_90 (pc' := 91) rfl (v := 2) rfl ?_
    refine g_aloadN W730 dQ0_91 (pc' := 92) rfl rfl rfl ?_
    refine g_iconst W730 dQ0_92 (pc' := 93) rfl (v := 2) rfl ?_
    refine g_caload W730 dQ0_93 (pc' := 94) rfl ((K.ext E705).ext X731) (i := 2) rfl (by decide) (v := (.int x2)) rfl ?_
    refine g_castore W730 dQ0_94 (pc' := 95) rfl A729 (i := 2) rfl (by decide) (by first | decide | simp) (y := x2) (own_nar8 (hb x2 (by simp))) (vs' := [(.int x0), (.int x1), (.int x2)]) rfl (by simp) (Or.inr naa718) ?_
    intro T732 h733 w734 A735 W736
    have X737 := own_ext_wr X731 w734 (by rw [g719]; exact Nat.le_refl _)
    have X738 := own_ext_tr E705 X737
    have H739 : ∀ c ∈ ([x0, x1, x2] : List Int32), ¬ c < 0 ∧ ¬ (255 : Int32) < c := own_btake 3 hb
    refine g_special W736 dQ0_95 (pc' := 98) rfl rfl (hw _ (List.mem_of_getElem? (i := 8) rfl)) (hw _ (List.mem_of_getElem? (i := 9) rfl)) (hw _ (List.mem_of_getElem? (i := 7) rfl)) (hw _ (List.mem_of_getElem? (i := 10) rfl)) (by decide) (con_new1 l Z a0 hw hEL a710 a718 _ [x0, x1, x2] _ _ _ zc 3 h733 (own_ext_tr O X738) (fun c hc => (H739 c hc).2) zxa710 rfl (by decide) (A706.ext X737) ((D707 (Or.inr (hw _ (List.mem_of_getElem? (i := 33) rfl))) (ty := .array .byte) (by decide)).ext X737) ((D707 (Or.inr (hw _ (List.mem_of_getElem? (i := 31) rfl))) (ty := .byte) (by decide)).ext X737) A735 (own_b16 H739) SC hzc) pd___C_V (argsL := [(.ref a718)]) (st := [(.ref a710)]) rfl rfl rfl rfl (by decide) (w := 1) (Nat.le_of_eq rfl) (by decide) (by decide) (by decide) (by simp) (fun q hq => Or.inr (by rcases List.mem_cons.mp hq with rfl | hq; exact nxa710; cases List.mem_singleton.mp hq; exact nxa710)) ?_
    intro v740 T741 h742 S745 q743 W746
    have W744 := W746.sf (SF' := [a718, a710]) (fun _ hx => List.mem_append_right _ hx)
    obtain ⟨rfl, K747, S748⟩ := q743
    have Y749 := own_ext_keep X738 K747 (by intro y hy; rw [List.mem_singleton.mp hy, g711]; exact Nat.le_refl _)
    exact g_aret W744 dQ0_98 rfl rfl rfl rfl ⟨a710, rfl, Y749, OLat.of S748 H739⟩
  · skip
    have ef : entryFrame m #[(.ref a), (.int (Int32.ofNat 4))] 2 = mkF m 0 #[.val (.ref a), .val (.int (4 : Int32))] [] := by first | rfl | (simp [entryFrame, mkF, argsToLocals, Value.category]; done)
    rw [ef]
    refine g_iloadN W0 dQ0_0 (pc' := 1) rfl rfl ?_
    refine g_ifY W0 dQ0_1 (pc' := 15) (feq (by decide : ¬ ((4 : Int32) = (0 : Int32)))).2 (by decide) (by decide) ?_
    refine g_iloadN W0 dQ0_15 (pc' := 16) rfl rfl ?_
    refine g_iconst W0 dQ0_16 (pc' := 17) rfl (v := 1) rfl ?_
    refine g_icY W0 dQ0_17 (pc' := 37) (feq (by decide : ¬ ((4 : Int32) = (1 : Int32)))).2 (by decide) (by decide) ?_
    refine g_iloadN W0 dQ0_37 (pc' := 38) rfl rfl ?_
    refine g_iconst W0 dQ0_38 (pc' := 39) rfl (v := 2) rfl ?_
    refine g_icY W0 dQ0_39 (pc' := 65) (feq (by decide : ¬ ((4 : Int32) = (2 : Int32)))).2 (by decide) (by decide) ?_
    refine g_iloadN W0 dQ0_65 (pc' := 66) rfl rfl ?_
    refine g_iconst W0 dQ0_66 (pc' := 67) rfl (v := 3) rfl ?_
    refine g_icY W0 dQ0_67 (pc' := 99) (feq (by decide : ¬ ((4 : Int32) = (3 : Int32)))).2 (by decide) (by decide) ?_
    refine g_new W0 dQ0_99 (pc' := 102) rfl (hw _ (List.mem_of_getElem? (i := 5) rfl)) (hw _ (List.mem_of_getElem? (i := 6) rfl)) (hw _ (List.mem_of_getElem? (i := 7) rfl)) (by decide) (by decide) ?_
    intro T750 h751 E752 A753 D754 U755 W756
    obtain ⟨a757, g758⟩ : ∃ z, z = h0.size := ⟨_, rfl⟩
    rw [← g758] at A753 D754 U755 W756 ⊢
    have nxa757 : s.heap.size ≤ a757 := by rw [g758]; exact W0.grown
    have zxa757 : Z.heap.size ≤ a757 := by rw [g758]; exact O.1
    refine g_dup W756 dQ0_102 (pc' := 103) rfl rfl ?_
    refine g_iconst W756 dQ0_103 (pc' := 104) rfl (v := 4) rfl ?_
    refine g_newP W756 dQ0_104 (pc' := 106) (cap := 4) rfl (ty := .char) (dv := (.int 0)) rfl rfl (hw _ (List.mem_of_getElem? (i := 0) rfl)) (by decide) (by decide) (by decide) (by decide) (by decide) ?_
    intro T759 h760 cA761 E762 A763 W764
    obtain ⟨a765, g766⟩ : ∃ z, z = h751.size := ⟨_, rfl⟩
    rw [← g766] at A763 W764 ⊢
    have naa765 : s.heap.size ≤ a765 := by rw [g766]; exact W756.grown
    refine g_dup W764 dQ0_106 (pc' := 107) rfl rfl ?_
    refine g_iconst W764 dQ0_107 (pc' := 108) rfl (v := 0) rfl ?_
    refine g_aloadN W764 dQ0_108 (pc' := 109) rfl rfl rfl ?_
    refine g_iconst W764 dQ0_109 (pc' := 110) rfl (v := 0) rfl ?_
    refine g_caload W764 dQ0_110 (pc' := 111) rfl ((K.ext E752).ext E762) (i := 0) rfl (by decide) (v := (.int x0)) rfl ?_
    refine g_castore W764 dQ0_111 (pc' := 112) rfl (own_pad0 4 A763) (i := 0) rfl (by decide) (by first | decide | simp) (y := x0) (own_nar8 (hb x0 (by simp))) (vs' := [(.int x0), (.int (0 : Int32)), (.int (0 : Int32)), (.int (0 : Int32))]) rfl (by simp) (Or.inr naa765) ?_
    intro T767 h768 w769 A770 W771
    have X772 := own_ext_wr E762 w769 (by rw [g766]; exact Nat.le_refl _)
    refine g_dup W771 dQ0_112 (pc' := 113) rfl rfl ?_
    refine g_iconst W771 dQ0_113 (pc' := 114) rfl (v := 1) rfl ?_
    refine g_aloadN W771 dQ0_114 (pc' := 115) rfl rfl rfl ?_
    refine g_iconst W771 dQ0_115 (pc' := 116) rfl (v := 1) rfl ?_
    refine g_caload W771 dQ0_116 (pc' := 117) rfl ((K.ext E752).ext X772) (i := 1) rfl (by decide) (v := (.int x1)) rfl ?_
    refine g_castore W771 dQ0_117 (pc' := 118) rfl A770 (i := 1) rfl (by decide) (by first | decide | simp) (y := x1) (own_nar8 (hb x1 (by simp))) (vs' := [(.int x0), (.int x1), (.int (0 : Int32)), (.int (0 : Int32))]) rfl (by simp) (Or.inr naa765) ?_
    intro T773 h774 w775 A776 W777
    have X778 := own_ext_wr X772 w775 (by rw [g766]; exact Nat.le_refl _)
    refine g_dup W777 dQ0_118 (pc' := 119) rfl rfl ?_
    refine g_iconst W777 dQ0_119 (pc' := 120) rfl (v := 2) rfl ?_
    refine g_aloadN W777 dQ0_120 (pc' := 121) rfl rfl rfl ?_
    refine g_iconst W777 dQ0_121 (pc' := 122) rfl (v := 2) rfl ?_
    refine g_caload W777 dQ0_122 (pc' := 123) rfl ((K.ext E752).ext X778) (i := 2) rfl (by decide) (v := (.int x2)) rfl ?_
    refine g_castore W777 dQ0_123 (pc' := 124) rfl A776 (i := 2) rfl (by decide) (by first | decide | simp) (y := x2) (own_nar8 (hb x2 (by simp))) (vs' := [(.int x0), (.int x1), (.int x2), (.int (0 : Int32))]) rfl (by simp) (Or.inr naa765) ?_
    intro T779 h780 w781 A782 W783
    have X784 := own_ext_wr X778 w781 (by rw [g766]; exact Nat.le_refl _)
    refine g_dup W783 dQ0_124 (pc' := 125) rfl rfl ?_
    refine g_iconst W783 dQ0_125 (pc' := 126) rfl (v := 3) rfl ?_
    refine g_aloadN W783 dQ0_126 (pc' := 127) rfl rfl rfl ?_
    refine g_iconst W783 dQ0_127 (pc' := 128) rfl (v := 3) rfl ?_
    refine g_caload W783 dQ0_128 (pc' := 129) rfl ((K.ext E752).ext X784) (i := 3) rfl (by decide) (v := (.int x3)) rfl ?_
    refine g_castore W783 dQ0_129 (pc' := 130) rfl A782 (i := 3) rfl (by decide) (by first | decide | simp) (y := x3) (own_nar8 (hb x3 (by simp))) (vs' := [(.int x0), (.int x1), (.int x2), (.int x3)]) rfl (by simp) (Or.inr naa765) ?_
    intro T785 h786 w787 A788 W789
    have X790 := own_ext_wr X784 w787 (by rw [g766]; exact Nat.le_refl _)
    have X791 := own_ext_tr E752 X790
    have H792 : ∀ c ∈ ([x0, x1, x2, x3] : List Int32), ¬ c < 0 ∧ ¬ (255 : Int32) < c := own_btake 4 hb
    refine g_special W789 dQ0_130 (pc' := 133) rfl rfl (hw _ (List.mem_of_getElem? (i := 8) rfl)) (hw _ (List.mem_of_getElem? (i := 9) rfl)) (hw _ (List.mem_of_getElem? (i := 7) rfl)) (hw _ (List.mem_of_getElem? (i := 10) rfl)) (by decide) (con_new1 l Z a0 hw hEL a757 a765 _ [x0, x1, x2, x3] _ _ _ zc 4 h786 (own_ext_tr O X791) (fun c hc => (H792 c hc).2) zxa757 rfl (by decide) (A753.ext X790) ((D754 (Or.inr (hw _ (List.mem_of_getElem? (i := 33) rfl))) (ty := .array .byte) (by decide)).ext X790) ((D754 (Or.inr (hw _ (List.mem_of_getElem? (i := 31) rfl))) (ty := .byte) (by decide)).ext X790) A788 (own_b16 H792) SC hzc) pd___C_V (argsL := [(.ref a765)]) (st := [(.ref a757)]) rfl rfl rfl rfl (by decide) (w := 1) (Nat.le_of_eq rfl) (by decide) (by decide) (by decide) (by simp) (fun q hq => Or.inr (by rcases List.mem_cons.mp hq with rfl | hq; exact nxa757; cases List.mem_singleton.mp hq; exact nxa757)) ?_
    intro v793 T794 h795 S798 q796 W799
    have W797 := W799.sf (SF' := [a765, a757]) (fun _ hx => List.mem_append_right _ hx)
    obtain ⟨rfl, K800, S801⟩ := q796
    have Y802 := own_ext_keep X791 K800 (by intro y hy; rw [List.mem_singleton.mp hy, g758]; exact Nat.le_refl _)
    exact g_aret W797 dQ0_133 rfl rfl rfl rfl ⟨a757, rfl, Y802, OLat.of S801 H792⟩
theorem own_m6 (x : Int32) : ∃ i, i ≤ 5 ∧ (x &&& 7) % 6 = Int32.ofNat i := by
  have q := c_and x 7 (by decide)
  have e7 : (7 : Int32).toInt = 7 := rfl
  have e6 : (6 : Int32).toInt = 6 := rfl
  have r := (c_iremV (x &&& 7) 6).1 q.1 (by decide)
  refine ⟨((x &&& 7) % 6).toInt.toNat, by omega, Int32.toInt_inj.mp ?_⟩
  rw [Int32.toInt_ofNat_of_lt (by omega)]
  omega
theorem own_four {x0 x1 x2 x3 y0 y1 y2 y3 : Int32} {st len j : Nat} (hj : j < len) (hl : len ≤ 4) (e0 : 0 < len → own_fold ([x0, x1, x2, x3].getD (st + 0) 0) = own_fold y0) (e1 : 1 < len → own_fold ([x0, x1, x2, x3].getD (st + 1) 0) = own_fold y1) (e2 : 2 < len → own_fold ([x0, x1, x2, x3].getD (st + 2) 0) = own_fold y2) (e3 : 3 < len → own_fold ([x0, x1, x2, x3].getD (st + 3) 0) = own_fold y3) : own_fold ([x0, x1, x2, x3].getD (st + j) 0) = own_fold ([y0, y1, y2, y3].getD j 0) := by
  obtain rfl | rfl | rfl | rfl : j = 0 ∨ j = 1 ∨ j = 2 ∨ j = 3 := by omega
  · exact e0 hj
  · exact e1 hj
  · exact e2 hj
  · exact e3 hj
set_option maxRecDepth 65536 in
set_option maxHeartbeats 4000000 in
theorem con_law (l : Launch) (Z : State) (a0 : Array Value) (hw : ∀ d ∈ tables_1, d.before a0 Z = true) (hEL : EW Z a0 consts_1) (zc : Int32) (SC : Sta Z Z.heap "java/lang/String" "COMPACT_STRINGS" "Z" (.int zc)) (hzc : ¬ zc = 0) (fm : Value) (hfm : fm.isRef = true) (SF1 : Sta Z Z.heap "jdk/internal/util/Preconditions" "SIOOBE_FORMATTER" "Ljava/util/function/BiFunction;" fm) (p1 p2 p3 : Int32) (h0 : Heap) (O : Ext Z.heap h0) :
    Ocon l Z consts_1 Jvm.Pilot.@@N@@.x code maxLocals ret tables_1 room_1 #[(.int p1), (.int p2), (.int p3)] h0 [] [] (fun v h _ => v = some (.int 1)) := by
  refine own_con (a0 := a0) hEL (plainFor_of_name pn_com_example_skyhold_skyhold_SbiBodyIsTypePinLaw) ?_
  intro p e s m below meth c T0 hs W00
  have W00 : Owk p l e room_1 s m #[(.int p1), (.int p2), (.int p3)] below meth c Z a0 consts_1 [] "com/example/skyhold/skyhold/SbiBodyIsTypePinLaw" "law" code maxLocals ret T0 h0 [] 0 0 := W00
  show Ogo p l e room_1 s m #[(.int p1), (.int p2), (.int p3)] below meth c Z a0 consts_1 [] "com/example/skyhold/skyhold/SbiBodyIsTypePinLaw" "law" code maxLocals ret T0 _ _
  have s119 : ∀ (T : State) (h : Heap) (a b : Addr) (kC kD : ClassId) (x0 x1 x2 x3 y0 y1 y2 y3 : Int32) (i1 i2 : Nat), i1 ≤ 5 → i2 ≤ 5 → Ext Z.heap h → Arv Z h a kC .char 4 [(.int x0), (.int x1), (.int x2), (.int x3)] (.int 0) → Arv Z h b kD .char 4 [(.int y0), (.int y1), (.int y2), (.int y3)] (.int 0) → (∀ c ∈ [x0, x1, x2, x3], ¬ c < 0 ∧ ¬ (255 : Int32) < c) → (∀ c ∈ [y0, y1, y2, y3], ¬ c < 0 ∧ ¬ (255 : Int32) < c) → Owk p l e room_1 s m #[(.int p1), (.int p2), (.int p3)] below meth c Z a0 consts_1 [] "com/example/skyhold/skyhold/SbiBodyIsTypePinLaw" "law" code maxLocals ret T h [] 2 8 → Ogo p l e room_1 s m #[(.int p1), (.int p2), (.int p3)] below meth c Z a0 consts_1 [] "com/example/skyhold/skyhold/SbiBodyIsTypePinLaw" "law" code maxLocals ret T (mkF m 119 #[.val (.int p1), .val (.int p2), .val (.int p3), .val (.ref a), .val (.ref b), .val (.int (Int32.ofNat i1)), .val (.int (Int32.ofNat i2)), .unset, .unset, .unset, .unset, .unset, .unset, .unset, .unset] []) (fun v h _ => v = some (.int 1)) := by
    intro T h a b kC kD x0 x1 x2 x3 y0 y1 y2 y3 i1 i2 hi1 hi2 O1 A D hx hy W0
    have five : ∀ i : Nat, i ≤ 5 → ¬ Int32.ofNat i = 5 → i ≤ 4 := fun i h1 h2 => by
      rcases Nat.lt_or_ge i 5 with q | q
      · omega
      · exact absurd (by rw [show i = 5 by omega]; rfl) h2
    refine g_iload W0 at_119 (pc' := 121) rfl rfl ?_
    refine g_iconst W0 at_121 (pc' := 122) rfl (v := 5) rfl ?_
    by_cases c803 : (Int32.ofNat i1) = (5 : Int32)
    · skip
      refine g_icN W0 at_122 (pc' := 125) (teq c803).2 rfl ?_
      refine g_aconst_null W0 at_125 (pc' := 126) rfl ?_
      refine g_goto W0 at_126 (pc' := 135) (by decide) (by decide) ?_
      refine g_astore W0 at_135 (pc' := 137) rfl (ls' := #[.val (.int p1), .val (.int p2), .val (.int p3), .val (.ref a), .val (.ref b), .val (.int (Int32.ofNat i1)), .val (.int (Int32.ofNat i2)), .val .null, .unset, .unset, .unset, .unset, .unset, .unset, .unset]) rfl rfl ?_
      refine g_iload W0 at_137 (pc' := 139) rfl rfl ?_
      refine g_iconst W0 at_139 (pc' := 140) rfl (v := 5) rfl ?_
      by_cases c804 : (Int32.ofNat i2) = (5 : Int32)
      · skip
        refine g_icN W0 at_140 (pc' := 143) (teq c804).2 rfl ?_
        refine g_aconst_null W0 at_143 (pc' := 144) rfl ?_
        refine g_goto W0 at_144 (pc' := 154) (by decide) (by decide) ?_
        refine g_astore W0 at_154 (pc' := 156) rfl (ls' := #[.val (.int p1), .val (.int p2), .val (.int p3), .val (.ref a), .val (.ref b), .val (.int (Int32.ofNat i1)), .val (.int (Int32.ofNat i2)), .val .null, .val .null, .unset, .unset, .unset, .unset, .unset, .unset]) rfl rfl ?_
        refine g_aload W0 at_156 (pc' := 158) rfl rfl rfl ?_
        refine g_aload W0 at_158 (pc' := 160) rfl rfl rfl ?_
        refine g_static W0 at_160 (pc' := 163) rfl (hw _ (List.mem_of_getElem? (i := 37) rfl)) (hw _ (List.mem_of_getElem? (i := 38) rfl)) (hw _ (List.mem_of_getElem? (i := 39) rfl)) (hw _ (List.mem_of_getElem? (i := 40) rfl)) (by decide) (con_it00 l Z a0 hw hEL zc SC hzc fm hfm SF1 h (own_ext_tr O1 (own_ext_rf h))) pd__Ljava_lang_String_Ljava_lang_String__Z (argsL := [.null, .null]) (st := []) rfl rfl rfl rfl (by decide) (w := 0) (Nat.le_of_eq rfl) (by decide) (by decide) (by decide) (by simp) (fun q hq => nomatch hq) ?_
        intro v805 T806 h807 S810 q808 W811
        have W809 := W811.sf (SF' := []) (fun _ hx => List.mem_append_right _ hx)
        obtain ⟨XI, rfl⟩ := q808
        refine g_istore W809 at_163 (pc' := 165) rfl (ls' := #[.val (.int p1), .val (.int p2), .val (.int p3), .val (.ref a), .val (.ref b), .val (.int (Int32.ofNat i1)), .val (.int (Int32.ofNat i2)), .val .null, .val .null, .val (.int (0 : Int32)), .unset, .unset, .unset, .unset, .unset]) rfl ?_
        refine g_iload W809 at_165 (pc' := 167) rfl rfl ?_
        refine g_iconst W809 at_167 (pc' := 168) rfl (v := 5) rfl ?_
        refine g_icY W809 at_168 (pc' := 177) (teq c803).1 (by decide) (by decide) ?_
        refine g_iconst W809 at_177 (pc' := 178) rfl (v := 0) rfl ?_
        refine g_istore W809 at_178 (pc' := 180) rfl (ls' := #[.val (.int p1), .val (.int p2), .val (.int p3), .val (.ref a), .val (.ref b), .val (.int (Int32.ofNat i1)), .val (.int (Int32.ofNat i2)), .val .null, .val .null, .val (.int (0 : Int32)), .val (.int (0 : Int32)), .unset, .unset, .unset, .unset]) rfl ?_
        refine g_goto W809 at_180 (pc' := 286) (by decide) (by decide) ?_
        refine g_iload W809 at_286 (pc' := 288) rfl rfl ?_
        refine g_iload W809 at_288 (pc' := 290) rfl rfl ?_
        refine g_icN W809 at_290 (pc' := 293) (teq (by decide : (0 : Int32) = (0 : Int32))).2 rfl ?_
        refine g_iconst W809 at_293 (pc' := 294) rfl (v := 1) rfl ?_
        refine g_goto W809 at_294 (pc' := 298) (by decide) (by decide) ?_
        exact g_iret W809 at_298 rfl (Or.inr (Or.inl rfl)) rfl rfl
      · skip
        refine g_icY W0 at_140 (pc' := 147) (feq c804).2 (by decide) (by decide) ?_
        refine g_aload W0 at_147 (pc' := 149) rfl rfl rfl ?_
        refine g_iload W0 at_149 (pc' := 151) rfl rfl ?_
        have h4_812 := five i2 hi2 c804
        refine g_static W0 at_151 (pc' := 154) rfl (hw _ (List.mem_of_getElem? (i := 1) rfl)) (hw _ (List.mem_of_getElem? (i := 2) rfl)) (hw _ (List.mem_of_getElem? (i := 3) rfl)) (hw _ (List.mem_of_getElem? (i := 4) rfl)) (by decide) (con_mk l Z a0 hw hEL b kD y0 y1 y2 y3 h (D.ext (own_ext_rf h)) i2 h4_812 zc SC hzc (own_ext_tr O1 (own_ext_rf h)) hy) pd___CI_Ljava_lang_String_ (argsL := [(.ref b), (.int (Int32.ofNat i2))]) (st := []) rfl rfl rfl rfl (by decide) (w := 0) (Nat.le_of_eq rfl) (by decide) (by decide) (by decide) (by simp) (fun q hq => nomatch hq) ?_
        intro v813 T814 h815 S818 q816 W819
        have W817 := W819.sf (SF' := []) (fun _ hx => List.mem_append_right _ hx)
        obtain ⟨s2_, rfl, X2_, S2_⟩ := q816
        have XX2 := own_ext_tr (own_ext_rf h) X2_
        refine g_astore W817 at_154 (pc' := 156) rfl (ls' := #[.val (.int p1), .val (.int p2), .val (.int p3), .val (.ref a), .val (.ref b), .val (.int (Int32.ofNat i1)), .val (.int (Int32.ofNat i2)), .val .null, .val (.ref s2_), .unset, .unset, .unset, .unset, .unset, .unset]) rfl rfl ?_
        refine g_aload W817 at_156 (pc' := 158) rfl rfl rfl ?_
        refine g_aload W817 at_158 (pc' := 160) rfl rfl rfl ?_
        refine g_static W817 at_160 (pc' := 163) rfl (hw _ (List.mem_of_getElem? (i := 37) rfl)) (hw _ (List.mem_of_getElem? (i := 38) rfl)) (hw _ (List.mem_of_getElem? (i := 39) rfl)) (hw _ (List.mem_of_getElem? (i := 40) rfl)) (by decide) (con_it01 l Z a0 hw hEL zc SC hzc fm hfm SF1 h815 (own_ext_tr O1 XX2) s2_) pd__Ljava_lang_String_Ljava_lang_String__Z (argsL := [.null, (.ref s2_)]) (st := []) rfl rfl rfl rfl (by decide) (w := 0) (Nat.le_of_eq rfl) (by decide) (by decide) (by decide) (by simp) (fun q hq => nomatch hq) ?_
        intro v820 T821 h822 S825 q823 W826
        have W824 := W826.sf (SF' := []) (fun _ hx => List.mem_append_right _ hx)
        obtain ⟨XI, rfl⟩ := q823
        refine g_istore W824 at_163 (pc' := 165) rfl (ls' := #[.val (.int p1), .val (.int p2), .val (.int p3), .val (.ref a), .val (.ref b), .val (.int (Int32.ofNat i1)), .val (.int (Int32.ofNat i2)), .val .null, .val (.ref s2_), .val (.int (0 : Int32)), .unset, .unset, .unset, .unset, .unset]) rfl ?_
        refine g_iload W824 at_165 (pc' := 167) rfl rfl ?_
        refine g_iconst W824 at_167 (pc' := 168) rfl (v := 5) rfl ?_
        refine g_icY W824 at_168 (pc' := 177) (teq c803).1 (by decide) (by decide) ?_
        refine g_iconst W824 at_177 (pc' := 178) rfl (v := 0) rfl ?_
        refine g_istore W824 at_178 (pc' := 180) rfl (ls' := #[.val (.int p1), .val (.int p2), .val (.int p3), .val (.ref a), .val (.ref b), .val (.int (Int32.ofNat i1)), .val (.int (Int32.ofNat i2)), .val .null, .val (.ref s2_), .val (.int (0 : Int32)), .val (.int (0 : Int32)), .unset, .unset, .unset, .unset]) rfl ?_
        refine g_goto W824 at_180 (pc' := 286) (by decide) (by decide) ?_
        refine g_iload W824 at_286 (pc' := 288) rfl rfl ?_
        refine g_iload W824 at_288 (pc' := 290) rfl rfl ?_
        refine g_icN W824 at_290 (pc' := 293) (teq (by decide : (0 : Int32) = (0 : Int32))).2 rfl ?_
        refine g_iconst W824 at_293 (pc' := 294) rfl (v := 1) rfl ?_
        refine g_goto W824 at_294 (pc' := 298) (by decide) (by decide) ?_
        exact g_iret W824 at_298 rfl (Or.inr (Or.inl rfl)) rfl rfl
    · skip
      refine g_icY W0 at_122 (pc' := 129) (feq c803).2 (by decide) (by decide) ?_
      refine g_aloadN W0 at_129 (pc' := 130) rfl rfl rfl ?_
      refine g_iload W0 at_130 (pc' := 132) rfl rfl ?_
      have h4_827 := five i1 hi1 c803
      refine g_static W0 at_132 (pc' := 135) rfl (hw _ (List.mem_of_getElem? (i := 1) rfl)) (hw _ (List.mem_of_getElem? (i := 2) rfl)) (hw _ (List.mem_of_getElem? (i := 3) rfl)) (hw _ (List.mem_of_getElem? (i := 4) rfl)) (by decide) (con_mk l Z a0 hw hEL a kC x0 x1 x2 x3 h (A.ext (own_ext_rf h)) i1 h4_827 zc SC hzc (own_ext_tr O1 (own_ext_rf h)) hx) pd___CI_Ljava_lang_String_ (argsL := [(.ref a), (.int (Int32.ofNat i1))]) (st := []) rfl rfl rfl rfl (by decide) (w := 0) (Nat.le_of_eq rfl) (by decide) (by decide) (by decide) (by simp) (fun q hq => nomatch hq) ?_
      intro v828 T829 h830 S833 q831 W834
      have W832 := W834.sf (SF' := []) (fun _ hx => List.mem_append_right _ hx)
      obtain ⟨s1_, rfl, X1_, S1_⟩ := q831
      have XX1 := own_ext_tr (own_ext_rf h) X1_
      refine g_astore W832 at_135 (pc' := 137) rfl (ls' := #[.val (.int p1), .val (.int p2), .val (.int p3), .val (.ref a), .val (.ref b), .val (.int (Int32.ofNat i1)), .val (.int (Int32.ofNat i2)), .val (.ref s1_), .unset, .unset, .unset, .unset, .unset, .unset, .unset]) rfl rfl ?_
      refine g_iload W832 at_137 (pc' := 139) rfl rfl ?_
      refine g_iconst W832 at_139 (pc' := 140) rfl (v := 5) rfl ?_
      by_cases c835 : (Int32.ofNat i2) = (5 : Int32)
      · skip
        refine g_icN W832 at_140 (pc' := 143) (teq c835).2 rfl ?_
        refine g_aconst_null W832 at_143 (pc' := 144) rfl ?_
        refine g_goto W832 at_144 (pc' := 154) (by decide) (by decide) ?_
        refine g_astore W832 at_154 (pc' := 156) rfl (ls' := #[.val (.int p1), .val (.int p2), .val (.int p3), .val (.ref a), .val (.ref b), .val (.int (Int32.ofNat i1)), .val (.int (Int32.ofNat i2)), .val (.ref s1_), .val .null, .unset, .unset, .unset, .unset, .unset, .unset]) rfl rfl ?_
        refine g_aload W832 at_156 (pc' := 158) rfl rfl rfl ?_
        refine g_aload W832 at_158 (pc' := 160) rfl rfl rfl ?_
        refine g_static W832 at_160 (pc' := 163) rfl (hw _ (List.mem_of_getElem? (i := 37) rfl)) (hw _ (List.mem_of_getElem? (i := 38) rfl)) (hw _ (List.mem_of_getElem? (i := 39) rfl)) (hw _ (List.mem_of_getElem? (i := 40) rfl)) (by decide) (con_it10 l Z a0 hw hEL zc SC hzc fm hfm SF1 h830 (own_ext_tr O1 XX1) s1_ ([x0, x1, x2, x3].take i1) (S1_) (by rw [List.length_take]; exact Nat.le_trans (Nat.min_le_right _ _) (Nat.le_refl 4))) pd__Ljava_lang_String_Ljava_lang_String__Z (argsL := [(.ref s1_), .null]) (st := []) rfl rfl rfl rfl (by decide) (w := 0) (Nat.le_of_eq rfl) (by decide) (by decide) (by decide) (by simp) (fun q hq => nomatch hq) ?_
        intro v836 T837 h838 S841 q839 W842
        have W840 := W842.sf (SF' := []) (fun _ hx => List.mem_append_right _ hx)
        obtain ⟨XI, rfl⟩ := q839
        refine g_istore W840 at_163 (pc' := 165) rfl (ls' := #[.val (.int p1), .val (.int p2), .val (.int p3), .val (.ref a), .val (.ref b), .val (.int (Int32.ofNat i1)), .val (.int (Int32.ofNat i2)), .val (.ref s1_), .val .null, .val (.int (0 : Int32)), .unset, .unset, .unset, .unset, .unset]) rfl ?_
        refine g_iload W840 at_165 (pc' := 167) rfl rfl ?_
        refine g_iconst W840 at_167 (pc' := 168) rfl (v := 5) rfl ?_
        refine g_icN W840 at_168 (pc' := 171) (feq c803).1 rfl ?_
        refine g_iload W840 at_171 (pc' := 173) rfl rfl ?_
        refine g_iconst W840 at_173 (pc' := 174) rfl (v := 5) rfl ?_
        refine g_icN W840 at_174 (pc' := 177) (teq c835).2 rfl ?_
        refine g_iconst W840 at_177 (pc' := 178) rfl (v := 0) rfl ?_
        refine g_istore W840 at_178 (pc' := 180) rfl (ls' := #[.val (.int p1), .val (.int p2), .val (.int p3), .val (.ref a), .val (.ref b), .val (.int (Int32.ofNat i1)), .val (.int (Int32.ofNat i2)), .val (.ref s1_), .val .null, .val (.int (0 : Int32)), .val (.int (0 : Int32)), .unset, .unset, .unset, .unset]) rfl ?_
        refine g_goto W840 at_180 (pc' := 286) (by decide) (by decide) ?_
        refine g_iload W840 at_286 (pc' := 288) rfl rfl ?_
        refine g_iload W840 at_288 (pc' := 290) rfl rfl ?_
        refine g_icN W840 at_290 (pc' := 293) (teq (by decide : (0 : Int32) = (0 : Int32))).2 rfl ?_
        refine g_iconst W840 at_293 (pc' := 294) rfl (v := 1) rfl ?_
        refine g_goto W840 at_294 (pc' := 298) (by decide) (by decide) ?_
        exact g_iret W840 at_298 rfl (Or.inr (Or.inl rfl)) rfl rfl
      · skip
        refine g_icY W832 at_140 (pc' := 147) (feq c835).2 (by decide) (by decide) ?_
        refine g_aload W832 at_147 (pc' := 149) rfl rfl rfl ?_
        refine g_iload W832 at_149 (pc' := 151) rfl rfl ?_
        have h4_843 := five i2 hi2 c835
        refine g_static W832 at_151 (pc' := 154) rfl (hw _ (List.mem_of_getElem? (i := 1) rfl)) (hw _ (List.mem_of_getElem? (i := 2) rfl)) (hw _ (List.mem_of_getElem? (i := 3) rfl)) (hw _ (List.mem_of_getElem? (i := 4) rfl)) (by decide) (con_mk l Z a0 hw hEL b kD y0 y1 y2 y3 h830 (D.ext XX1) i2 h4_843 zc SC hzc (own_ext_tr O1 XX1) hy) pd___CI_Ljava_lang_String_ (argsL := [(.ref b), (.int (Int32.ofNat i2))]) (st := []) rfl rfl rfl rfl (by decide) (w := 0) (Nat.le_of_eq rfl) (by decide) (by decide) (by decide) (by simp) (fun q hq => nomatch hq) ?_
        intro v844 T845 h846 S849 q847 W850
        have W848 := W850.sf (SF' := []) (fun _ hx => List.mem_append_right _ hx)
        obtain ⟨s2_, rfl, X2_, S2_⟩ := q847
        have XX2 := own_ext_tr XX1 X2_
        refine g_astore W848 at_154 (pc' := 156) rfl (ls' := #[.val (.int p1), .val (.int p2), .val (.int p3), .val (.ref a), .val (.ref b), .val (.int (Int32.ofNat i1)), .val (.int (Int32.ofNat i2)), .val (.ref s1_), .val (.ref s2_), .unset, .unset, .unset, .unset, .unset, .unset]) rfl rfl ?_
        refine g_aload W848 at_156 (pc' := 158) rfl rfl rfl ?_
        refine g_aload W848 at_158 (pc' := 160) rfl rfl rfl ?_
        refine g_static W848 at_160 (pc' := 163) rfl (hw _ (List.mem_of_getElem? (i := 37) rfl)) (hw _ (List.mem_of_getElem? (i := 38) rfl)) (hw _ (List.mem_of_getElem? (i := 39) rfl)) (hw _ (List.mem_of_getElem? (i := 40) rfl)) (by decide) (con_it l Z a0 hw hEL zc SC hzc fm hfm SF1 h846 (own_ext_tr O1 XX2) s1_ ([x0, x1, x2, x3].take i1) (S1_.ext X2_) (by rw [List.length_take]; exact Nat.le_trans (Nat.min_le_right _ _) (Nat.le_refl 4)) s2_ ([y0, y1, y2, y3].take i2) S2_ (by rw [List.length_take]; exact Nat.le_trans (Nat.min_le_right _ _) (Nat.le_refl 4))) pd__Ljava_lang_String_Ljava_lang_String__Z (argsL := [(.ref s1_), (.ref s2_)]) (st := []) rfl rfl rfl rfl (by decide) (w := 0) (Nat.le_of_eq rfl) (by decide) (by decide) (by decide) (by simp) (fun q hq => nomatch hq) ?_
        intro v851 T852 h853 S856 q854 W857
        have W855 := W857.sf (SF' := []) (fun _ hx => List.mem_append_right _ hx)
        obtain ⟨XI, ⟨rfl, hty⟩ | ⟨rfl, hty⟩⟩ := q854
        · skip
          refine g_istore W855 at_163 (pc' := 165) rfl (ls' := #[.val (.int p1), .val (.int p2), .val (.int p3), .val (.ref a), .val (.ref b), .val (.int (Int32.ofNat i1)), .val (.int (Int32.ofNat i2)), .val (.ref s1_), .val (.ref s2_), .val (.int (1 : Int32)), .unset, .unset, .unset, .unset, .unset]) rfl ?_
          refine g_iload W855 at_165 (pc' := 167) rfl rfl ?_
          refine g_iconst W855 at_167 (pc' := 168) rfl (v := 5) rfl ?_
          refine g_icN W855 at_168 (pc' := 171) (feq c803).1 rfl ?_
          refine g_iload W855 at_171 (pc' := 173) rfl rfl ?_
          refine g_iconst W855 at_173 (pc' := 174) rfl (v := 5) rfl ?_
          refine g_icY W855 at_174 (pc' := 183) (feq c835).2 (by decide) (by decide) ?_
          refine g_aloadN W855 at_183 (pc' := 184) rfl rfl rfl ?_
          refine g_iload W855 at_184 (pc' := 186) rfl rfl ?_
          have hA := A.ext (own_ext_tr XX2 XI)
          have hD := D.ext (own_ext_tr XX2 XI)
          refine g_static W855 at_186 (pc' := 189) rfl (hw _ (List.mem_of_getElem? (i := 108) rfl)) (hw _ (List.mem_of_getElem? (i := 109) rfl)) (hw _ (List.mem_of_getElem? (i := 3) rfl)) (hw _ (List.mem_of_getElem? (i := 110) rfl)) (by decide) (con_fs l Z a0 hw hEL a kC x0 x1 x2 x3 h853 hA i1 h4_827) pd___CI_I (argsL := [(.ref a), (.int (Int32.ofNat i1))]) (st := []) rfl rfl rfl rfl (by decide) (w := 0) (Nat.le_of_eq rfl) (by decide) (by decide) (by decide) (by simp) (fun q hq => nomatch hq) ?_
          intro v858 T859 h860 S863 q861 W864
          have W862 := W864.sf (SF' := []) (fun _ hx => List.mem_append_right _ hx)
          obtain ⟨rfl, rfl⟩ := q861
          have hf4 : (own_first own_p59 ([x0, x1, x2, x3].take i1)) ≤ 4 := Nat.le_trans (own_first_le _ _) (by rw [List.length_take]; exact Nat.le_trans (Nat.min_le_right _ _) (Nat.le_refl 4))
          have hge := own_e_ge ([x0, x1, x2, x3].take (own_first own_p59 ([x0, x1, x2, x3].take i1)))
          have hle : (own_e ([x0, x1, x2, x3].take (own_first own_p59 ([x0, x1, x2, x3].take i1)))) ≤ 4 := Nat.le_trans (own_e_le _) (by rw [List.length_take]; exact Nat.le_trans (Nat.min_le_right _ _) (Nat.le_refl 4))
          have hC : (([x0, x1, x2, x3].take i1).take (own_first own_p59 ([x0, x1, x2, x3].take i1))) = ([x0, x1, x2, x3].take (own_first own_p59 ([x0, x1, x2, x3].take i1))) := by rw [List.take_take, Nat.min_eq_left (Nat.le_trans (own_first_le _ _) (List.length_take_le _ _))]
          have ij := own_join [x0, x1, x2, x3] [y0, y1, y2, y3] i2 (own_first own_p59 ([x0, x1, x2, x3].take i1)) (rfl : ([x0, x1, x2, x3].take (own_first own_p59 ([x0, x1, x2, x3].take i1))) = ([x0, x1, x2, x3].take (own_first own_p59 ([x0, x1, x2, x3].take i1)))) (show i2 ≤ 4 by omega)
          refine g_istore W862 at_189 (pc' := 191) rfl (ls' := #[.val (.int p1), .val (.int p2), .val (.int p3), .val (.ref a), .val (.ref b), .val (.int (Int32.ofNat i1)), .val (.int (Int32.ofNat i2)), .val (.ref s1_), .val (.ref s2_), .val (.int (1 : Int32)), .unset, .val (.int (Int32.ofNat (own_first own_p59 ([x0, x1, x2, x3].take i1)))), .unset, .unset, .unset]) rfl ?_
          refine g_aloadN W862 at_191 (pc' := 192) rfl rfl rfl ?_
          refine g_iload W862 at_192 (pc' := 194) rfl rfl ?_
          refine g_static W862 at_194 (pc' := 197) rfl (hw _ (List.mem_of_getElem? (i := 111) rfl)) (hw _ (List.mem_of_getElem? (i := 112) rfl)) (hw _ (List.mem_of_getElem? (i := 3) rfl)) (hw _ (List.mem_of_getElem? (i := 113) rfl)) (by decide) (con_srt l Z a0 hw hEL a kC x0 x1 x2 x3 h853 hA (own_first own_p59 ([x0, x1, x2, x3].take i1)) hf4) pd___CI_I (argsL := [(.ref a), (.int (Int32.ofNat (own_first own_p59 ([x0, x1, x2, x3].take i1))))]) (st := []) rfl rfl rfl rfl (by decide) (w := 0) (Nat.le_of_eq rfl) (by decide) (by decide) (by decide) (by simp) (fun q hq => nomatch hq) ?_
          intro v865 T866 h867 S870 q868 W871
          have W869 := W871.sf (SF' := []) (fun _ hx => List.mem_append_right _ hx)
          obtain ⟨rfl, rfl⟩ := q868
          refine g_istore W869 at_197 (pc' := 199) rfl (ls' := #[.val (.int p1), .val (.int p2), .val (.int p3), .val (.ref a), .val (.ref b), .val (.int (Int32.ofNat i1)), .val (.int (Int32.ofNat i2)), .val (.ref s1_), .val (.ref s2_), .val (.int (1 : Int32)), .unset, .val (.int (Int32.ofNat (own_first own_p59 ([x0, x1, x2, x3].take i1)))), .val (.int (Int32.ofNat (own_first own_p32 ([x0, x1, x2, x3].take (own_first own_p59 ([x0, x1, x2, x3].take i1)))))), .unset, .unset]) rfl ?_
          refine g_aloadN W869 at_199 (pc' := 200) rfl rfl rfl ?_
          refine g_iload W869 at_200 (pc' := 202) rfl rfl ?_
          refine g_iload W869 at_202 (pc' := 204) rfl rfl ?_
          refine g_static W869 at_204 (pc' := 207) rfl (hw _ (List.mem_of_getElem? (i := 114) rfl)) (hw _ (List.mem_of_getElem? (i := 115) rfl)) (hw _ (List.mem_of_getElem? (i := 3) rfl)) (hw _ (List.mem_of_getElem? (i := 116) rfl)) (by decide) (con_en l Z a0 hw hEL a kC x0 x1 x2 x3 h853 hA (own_first own_p59 ([x0, x1, x2, x3].take i1)) (own_first own_p32 ([x0, x1, x2, x3].take (own_first own_p59 ([x0, x1, x2, x3].take i1)))) hf4 rfl) pd___CII_I (argsL := [(.ref a), (.int (Int32.ofNat (own_first own_p59 ([x0, x1, x2, x3].take i1)))), (.int (Int32.ofNat (own_first own_p32 ([x0, x1, x2, x3].take (own_first own_p59 ([x0, x1, x2, x3].take i1))))))]) (st := []) rfl rfl rfl rfl (by decide) (w := 0) (Nat.le_of_eq rfl) (by decide) (by decide) (by decide) (by simp) (fun q hq => nomatch hq) ?_
          intro v872 T873 h874 S877 q875 W878
          have W876 := W878.sf (SF' := []) (fun _ hx => List.mem_append_right _ hx)
          obtain ⟨rfl, rfl⟩ := q875
          refine g_istore W876 at_207 (pc' := 209) rfl (ls' := #[.val (.int p1), .val (.int p2), .val (.int p3), .val (.ref a), .val (.ref b), .val (.int (Int32.ofNat i1)), .val (.int (Int32.ofNat i2)), .val (.ref s1_), .val (.ref s2_), .val (.int (1 : Int32)), .unset, .val (.int (Int32.ofNat (own_first own_p59 ([x0, x1, x2, x3].take i1)))), .val (.int (Int32.ofNat (own_first own_p32 ([x0, x1, x2, x3].take (own_first own_p59 ([x0, x1, x2, x3].take i1)))))), .val (.int (Int32.ofNat (own_e ([x0, x1, x2, x3].take (own_first own_p59 ([x0, x1, x2, x3].take i1)))))), .unset]) rfl ?_
          refine g_iload W876 at_209 (pc' := 211) rfl rfl ?_
          refine g_iload W876 at_211 (pc' := 213) rfl rfl ?_
          refine g_isub W876 at_213 (pc' := 214) rfl ?_
          rw [own_subn (by omega) hge]
          refine g_istore W876 at_214 (pc' := 216) rfl (ls' := #[.val (.int p1), .val (.int p2), .val (.int p3), .val (.ref a), .val (.ref b), .val (.int (Int32.ofNat i1)), .val (.int (Int32.ofNat i2)), .val (.ref s1_), .val (.ref s2_), .val (.int (1 : Int32)), .unset, .val (.int (Int32.ofNat (own_first own_p59 ([x0, x1, x2, x3].take i1)))), .val (.int (Int32.ofNat (own_first own_p32 ([x0, x1, x2, x3].take (own_first own_p59 ([x0, x1, x2, x3].take i1)))))), .val (.int (Int32.ofNat (own_e ([x0, x1, x2, x3].take (own_first own_p59 ([x0, x1, x2, x3].take i1)))))), .val (.int (Int32.ofNat ((own_e ([x0, x1, x2, x3].take (own_first own_p59 ([x0, x1, x2, x3].take i1)))) - (own_first own_p32 ([x0, x1, x2, x3].take (own_first own_p59 ([x0, x1, x2, x3].take i1)))))))]) rfl ?_
          refine g_iload W876 at_216 (pc' := 218) rfl rfl ?_
          refine g_iload W876 at_218 (pc' := 220) rfl rfl ?_
          by_cases c879 : (Int32.ofNat ((own_e ([x0, x1, x2, x3].take (own_first own_p59 ([x0, x1, x2, x3].take i1)))) - (own_first own_p32 ([x0, x1, x2, x3].take (own_first own_p59 ([x0, x1, x2, x3].take i1)))))) = (Int32.ofNat i2)
          · skip
            refine g_icN W876 at_220 (pc' := 223) (teq c879).2 rfl ?_
            refine g_aloadN W876 at_223 (pc' := 224) rfl rfl rfl ?_
            refine g_iload W876 at_224 (pc' := 226) rfl rfl ?_
            refine g_aload W876 at_226 (pc' := 228) rfl rfl rfl ?_
            refine g_iconst W876 at_228 (pc' := 229) rfl (v := 0) rfl ?_
            refine g_iload W876 at_229 (pc' := 231) rfl rfl ?_
            refine g_static W876 at_231 (pc' := 234) rfl (hw _ (List.mem_of_getElem? (i := 117) rfl)) (hw _ (List.mem_of_getElem? (i := 118) rfl)) (hw _ (List.mem_of_getElem? (i := 3) rfl)) (hw _ (List.mem_of_getElem? (i := 119) rfl)) (by decide) (con_eqa0 l Z a0 hw hEL a kC x0 x1 x2 x3 h853 hA b kD y0 y1 y2 y3 hD (own_first own_p32 ([x0, x1, x2, x3].take (own_first own_p59 ([x0, x1, x2, x3].take i1)))) ((own_e ([x0, x1, x2, x3].take (own_first own_p59 ([x0, x1, x2, x3].take i1)))) - (own_first own_p32 ([x0, x1, x2, x3].take (own_first own_p59 ([x0, x1, x2, x3].take i1))))) (by omega)) pd___CI_CII_Z (argsL := [(.ref a), (.int (Int32.ofNat (own_first own_p32 ([x0, x1, x2, x3].take (own_first own_p59 ([x0, x1, x2, x3].take i1)))))), (.ref b), (.int (0 : Int32)), (.int (Int32.ofNat ((own_e ([x0, x1, x2, x3].take (own_first own_p59 ([x0, x1, x2, x3].take i1)))) - (own_first own_p32 ([x0, x1, x2, x3].take (own_first own_p59 ([x0, x1, x2, x3].take i1)))))))]) (st := []) rfl rfl rfl rfl (by decide) (w := 0) (Nat.le_of_eq rfl) (by decide) (by decide) (by decide) (by simp) (fun q hq => nomatch hq) ?_
            intro v880 T881 h882 S885 q883 W886
            have W884 := W886.sf (SF' := []) (fun _ hx => List.mem_append_right _ hx)
            obtain ⟨rfl, ⟨rfl, e0⟩ | ⟨rfl, e0⟩⟩ := q883
            · skip
              refine g_ifN W884 at_234 (pc' := 237) (feq (by decide : ¬ ((1 : Int32) = (0 : Int32)))).1 rfl ?_
              refine g_aloadN W884 at_237 (pc' := 238) rfl rfl rfl ?_
              refine g_iload W884 at_238 (pc' := 240) rfl rfl ?_
              refine g_aload W884 at_240 (pc' := 242) rfl rfl rfl ?_
              refine g_iconst W884 at_242 (pc' := 243) rfl (v := 1) rfl ?_
              refine g_iload W884 at_243 (pc' := 245) rfl rfl ?_
              refine g_static W884 at_245 (pc' := 248) rfl (hw _ (List.mem_of_getElem? (i := 117) rfl)) (hw _ (List.mem_of_getElem? (i := 118) rfl)) (hw _ (List.mem_of_getElem? (i := 3) rfl)) (hw _ (List.mem_of_getElem? (i := 119) rfl)) (by decide) (con_eqa1 l Z a0 hw hEL a kC x0 x1 x2 x3 h853 hA b kD y0 y1 y2 y3 hD (own_first own_p32 ([x0, x1, x2, x3].take (own_first own_p59 ([x0, x1, x2, x3].take i1)))) ((own_e ([x0, x1, x2, x3].take (own_first own_p59 ([x0, x1, x2, x3].take i1)))) - (own_first own_p32 ([x0, x1, x2, x3].take (own_first own_p59 ([x0, x1, x2, x3].take i1))))) (by omega)) pd___CI_CII_Z (argsL := [(.ref a), (.int (Int32.ofNat (own_first own_p32 ([x0, x1, x2, x3].take (own_first own_p59 ([x0, x1, x2, x3].take i1)))))), (.ref b), (.int (1 : Int32)), (.int (Int32.ofNat ((own_e ([x0, x1, x2, x3].take (own_first own_p59 ([x0, x1, x2, x3].take i1)))) - (own_first own_p32 ([x0, x1, x2, x3].take (own_first own_p59 ([x0, x1, x2, x3].take i1)))))))]) (st := []) rfl rfl rfl rfl (by decide) (w := 0) (Nat.le_of_eq rfl) (by decide) (by decide) (by decide) (by simp) (fun q hq => nomatch hq) ?_
              intro v887 T888 h889 S892 q890 W893
              have W891 := W893.sf (SF' := []) (fun _ hx => List.mem_append_right _ hx)
              obtain ⟨rfl, ⟨rfl, e1⟩ | ⟨rfl, e1⟩⟩ := q890
              · skip
                refine g_ifN W891 at_248 (pc' := 251) (feq (by decide : ¬ ((1 : Int32) = (0 : Int32)))).1 rfl ?_
                refine g_aloadN W891 at_251 (pc' := 252) rfl rfl rfl ?_
                refine g_iload W891 at_252 (pc' := 254) rfl rfl ?_
                refine g_aload W891 at_254 (pc' := 256) rfl rfl rfl ?_
                refine g_iconst W891 at_256 (pc' := 257) rfl (v := 2) rfl ?_
                refine g_iload W891 at_257 (pc' := 259) rfl rfl ?_
                refine g_static W891 at_259 (pc' := 262) rfl (hw _ (List.mem_of_getElem? (i := 117) rfl)) (hw _ (List.mem_of_getElem? (i := 118) rfl)) (hw _ (List.mem_of_getElem? (i := 3) rfl)) (hw _ (List.mem_of_getElem? (i := 119) rfl)) (by decide) (con_eqa2 l Z a0 hw hEL a kC x0 x1 x2 x3 h853 hA b kD y0 y1 y2 y3 hD (own_first own_p32 ([x0, x1, x2, x3].take (own_first own_p59 ([x0, x1, x2, x3].take i1)))) ((own_e ([x0, x1, x2, x3].take (own_first own_p59 ([x0, x1, x2, x3].take i1)))) - (own_first own_p32 ([x0, x1, x2, x3].take (own_first own_p59 ([x0, x1, x2, x3].take i1))))) (by omega)) pd___CI_CII_Z (argsL := [(.ref a), (.int (Int32.ofNat (own_first own_p32 ([x0, x1, x2, x3].take (own_first own_p59 ([x0, x1, x2, x3].take i1)))))), (.ref b), (.int (2 : Int32)), (.int (Int32.ofNat ((own_e ([x0, x1, x2, x3].take (own_first own_p59 ([x0, x1, x2, x3].take i1)))) - (own_first own_p32 ([x0, x1, x2, x3].take (own_first own_p59 ([x0, x1, x2, x3].take i1)))))))]) (st := []) rfl rfl rfl rfl (by decide) (w := 0) (Nat.le_of_eq rfl) (by decide) (by decide) (by decide) (by simp) (fun q hq => nomatch hq) ?_
                intro v894 T895 h896 S899 q897 W900
                have W898 := W900.sf (SF' := []) (fun _ hx => List.mem_append_right _ hx)
                obtain ⟨rfl, ⟨rfl, e2⟩ | ⟨rfl, e2⟩⟩ := q897
                · skip
                  refine g_ifN W898 at_262 (pc' := 265) (feq (by decide : ¬ ((1 : Int32) = (0 : Int32)))).1 rfl ?_
                  refine g_aloadN W898 at_265 (pc' := 266) rfl rfl rfl ?_
                  refine g_iload W898 at_266 (pc' := 268) rfl rfl ?_
                  refine g_aload W898 at_268 (pc' := 270) rfl rfl rfl ?_
                  refine g_iconst W898 at_270 (pc' := 271) rfl (v := 3) rfl ?_
                  refine g_iload W898 at_271 (pc' := 273) rfl rfl ?_
                  refine g_static W898 at_273 (pc' := 276) rfl (hw _ (List.mem_of_getElem? (i := 117) rfl)) (hw _ (List.mem_of_getElem? (i := 118) rfl)) (hw _ (List.mem_of_getElem? (i := 3) rfl)) (hw _ (List.mem_of_getElem? (i := 119) rfl)) (by decide) (con_eqa3 l Z a0 hw hEL a kC x0 x1 x2 x3 h853 hA b kD y0 y1 y2 y3 hD (own_first own_p32 ([x0, x1, x2, x3].take (own_first own_p59 ([x0, x1, x2, x3].take i1)))) ((own_e ([x0, x1, x2, x3].take (own_first own_p59 ([x0, x1, x2, x3].take i1)))) - (own_first own_p32 ([x0, x1, x2, x3].take (own_first own_p59 ([x0, x1, x2, x3].take i1))))) (by omega)) pd___CI_CII_Z (argsL := [(.ref a), (.int (Int32.ofNat (own_first own_p32 ([x0, x1, x2, x3].take (own_first own_p59 ([x0, x1, x2, x3].take i1)))))), (.ref b), (.int (3 : Int32)), (.int (Int32.ofNat ((own_e ([x0, x1, x2, x3].take (own_first own_p59 ([x0, x1, x2, x3].take i1)))) - (own_first own_p32 ([x0, x1, x2, x3].take (own_first own_p59 ([x0, x1, x2, x3].take i1)))))))]) (st := []) rfl rfl rfl rfl (by decide) (w := 0) (Nat.le_of_eq rfl) (by decide) (by decide) (by decide) (by simp) (fun q hq => nomatch hq) ?_
                  intro v901 T902 h903 S906 q904 W907
                  have W905 := W907.sf (SF' := []) (fun _ hx => List.mem_append_right _ hx)
                  obtain ⟨rfl, ⟨rfl, e3⟩ | ⟨rfl, e3⟩⟩ := q904
                  · skip
                    refine g_ifN W905 at_276 (pc' := 279) (feq (by decide : ¬ ((1 : Int32) = (0 : Int32)))).1 rfl ?_
                    refine g_iconst W905 at_279 (pc' := 280) rfl (v := 1) rfl ?_
                    refine g_goto W905 at_280 (pc' := 284) (by decide) (by decide) ?_
                    refine g_istore W905 at_284 (pc' := 286) rfl (ls' := #[.val (.int p1), .val (.int p2), .val (.int p3), .val (.ref a), .val (.ref b), .val (.int (Int32.ofNat i1)), .val (.int (Int32.ofNat i2)), .val (.ref s1_), .val (.ref s2_), .val (.int (1 : Int32)), .val (.int (1 : Int32)), .val (.int (Int32.ofNat (own_first own_p59 ([x0, x1, x2, x3].take i1)))), .val (.int (Int32.ofNat (own_first own_p32 ([x0, x1, x2, x3].take (own_first own_p59 ([x0, x1, x2, x3].take i1)))))), .val (.int (Int32.ofNat (own_e ([x0, x1, x2, x3].take (own_first own_p59 ([x0, x1, x2, x3].take i1)))))), .val (.int (Int32.ofNat ((own_e ([x0, x1, x2, x3].take (own_first own_p59 ([x0, x1, x2, x3].take i1)))) - (own_first own_p32 ([x0, x1, x2, x3].take (own_first own_p59 ([x0, x1, x2, x3].take i1)))))))]) rfl ?_
                    refine g_iload W905 at_286 (pc' := 288) rfl rfl ?_
                    refine g_iload W905 at_288 (pc' := 290) rfl rfl ?_
                    refine g_icN W905 at_290 (pc' := 293) (teq (by decide : (1 : Int32) = (1 : Int32))).2 rfl ?_
                    refine g_iconst W905 at_293 (pc' := 294) rfl (v := 1) rfl ?_
                    refine g_goto W905 at_294 (pc' := 298) (by decide) (by decide) ?_
                    exact g_iret W905 at_298 rfl (Or.inr (Or.inl rfl)) rfl rfl
                  · skip
                    refine g_ifY W905 at_276 (pc' := 283) (teq (by decide : (0 : Int32) = (0 : Int32))).1 (by decide) (by decide) ?_
                    refine g_iconst W905 at_283 (pc' := 284) rfl (v := 0) rfl ?_
                    refine g_istore W905 at_284 (pc' := 286) rfl (ls' := #[.val (.int p1), .val (.int p2), .val (.int p3), .val (.ref a), .val (.ref b), .val (.int (Int32.ofNat i1)), .val (.int (Int32.ofNat i2)), .val (.ref s1_), .val (.ref s2_), .val (.int (1 : Int32)), .val (.int (0 : Int32)), .val (.int (Int32.ofNat (own_first own_p59 ([x0, x1, x2, x3].take i1)))), .val (.int (Int32.ofNat (own_first own_p32 ([x0, x1, x2, x3].take (own_first own_p59 ([x0, x1, x2, x3].take i1)))))), .val (.int (Int32.ofNat (own_e ([x0, x1, x2, x3].take (own_first own_p59 ([x0, x1, x2, x3].take i1)))))), .val (.int (Int32.ofNat ((own_e ([x0, x1, x2, x3].take (own_first own_p59 ([x0, x1, x2, x3].take i1)))) - (own_first own_p32 ([x0, x1, x2, x3].take (own_first own_p59 ([x0, x1, x2, x3].take i1)))))))]) rfl ?_
                    refine g_iload W905 at_286 (pc' := 288) rfl rfl ?_
                    refine g_iload W905 at_288 (pc' := 290) rfl rfl ?_
                    refine g_icY W905 at_290 (pc' := 297) (feq (by decide : ¬ ((1 : Int32) = (0 : Int32)))).2 (by decide) (by decide) ?_
                    refine g_iconst W905 at_297 (pc' := 298) rfl (v := 0) rfl ?_
                    exact g_iret W905 at_298 rfl (Or.inr (Or.inl rfl)) rfl (absurd ((ij.mp (hC ▸ hty)).2 3) e3)
                · skip
                  refine g_ifY W898 at_262 (pc' := 283) (teq (by decide : (0 : Int32) = (0 : Int32))).1 (by decide) (by decide) ?_
                  refine g_iconst W898 at_283 (pc' := 284) rfl (v := 0) rfl ?_
                  refine g_istore W898 at_284 (pc' := 286) rfl (ls' := #[.val (.int p1), .val (.int p2), .val (.int p3), .val (.ref a), .val (.ref b), .val (.int (Int32.ofNat i1)), .val (.int (Int32.ofNat i2)), .val (.ref s1_), .val (.ref s2_), .val (.int (1 : Int32)), .val (.int (0 : Int32)), .val (.int (Int32.ofNat (own_first own_p59 ([x0, x1, x2, x3].take i1)))), .val (.int (Int32.ofNat (own_first own_p32 ([x0, x1, x2, x3].take (own_first own_p59 ([x0, x1, x2, x3].take i1)))))), .val (.int (Int32.ofNat (own_e ([x0, x1, x2, x3].take (own_first own_p59 ([x0, x1, x2, x3].take i1)))))), .val (.int (Int32.ofNat ((own_e ([x0, x1, x2, x3].take (own_first own_p59 ([x0, x1, x2, x3].take i1)))) - (own_first own_p32 ([x0, x1, x2, x3].take (own_first own_p59 ([x0, x1, x2, x3].take i1)))))))]) rfl ?_
                  refine g_iload W898 at_286 (pc' := 288) rfl rfl ?_
                  refine g_iload W898 at_288 (pc' := 290) rfl rfl ?_
                  refine g_icY W898 at_290 (pc' := 297) (feq (by decide : ¬ ((1 : Int32) = (0 : Int32)))).2 (by decide) (by decide) ?_
                  refine g_iconst W898 at_297 (pc' := 298) rfl (v := 0) rfl ?_
                  exact g_iret W898 at_298 rfl (Or.inr (Or.inl rfl)) rfl (absurd ((ij.mp (hC ▸ hty)).2 2) e2)
              · skip
                refine g_ifY W891 at_248 (pc' := 283) (teq (by decide : (0 : Int32) = (0 : Int32))).1 (by decide) (by decide) ?_
                refine g_iconst W891 at_283 (pc' := 284) rfl (v := 0) rfl ?_
                refine g_istore W891 at_284 (pc' := 286) rfl (ls' := #[.val (.int p1), .val (.int p2), .val (.int p3), .val (.ref a), .val (.ref b), .val (.int (Int32.ofNat i1)), .val (.int (Int32.ofNat i2)), .val (.ref s1_), .val (.ref s2_), .val (.int (1 : Int32)), .val (.int (0 : Int32)), .val (.int (Int32.ofNat (own_first own_p59 ([x0, x1, x2, x3].take i1)))), .val (.int (Int32.ofNat (own_first own_p32 ([x0, x1, x2, x3].take (own_first own_p59 ([x0, x1, x2, x3].take i1)))))), .val (.int (Int32.ofNat (own_e ([x0, x1, x2, x3].take (own_first own_p59 ([x0, x1, x2, x3].take i1)))))), .val (.int (Int32.ofNat ((own_e ([x0, x1, x2, x3].take (own_first own_p59 ([x0, x1, x2, x3].take i1)))) - (own_first own_p32 ([x0, x1, x2, x3].take (own_first own_p59 ([x0, x1, x2, x3].take i1)))))))]) rfl ?_
                refine g_iload W891 at_286 (pc' := 288) rfl rfl ?_
                refine g_iload W891 at_288 (pc' := 290) rfl rfl ?_
                refine g_icY W891 at_290 (pc' := 297) (feq (by decide : ¬ ((1 : Int32) = (0 : Int32)))).2 (by decide) (by decide) ?_
                refine g_iconst W891 at_297 (pc' := 298) rfl (v := 0) rfl ?_
                exact g_iret W891 at_298 rfl (Or.inr (Or.inl rfl)) rfl (absurd ((ij.mp (hC ▸ hty)).2 1) e1)
            · skip
              refine g_ifY W884 at_234 (pc' := 283) (teq (by decide : (0 : Int32) = (0 : Int32))).1 (by decide) (by decide) ?_
              refine g_iconst W884 at_283 (pc' := 284) rfl (v := 0) rfl ?_
              refine g_istore W884 at_284 (pc' := 286) rfl (ls' := #[.val (.int p1), .val (.int p2), .val (.int p3), .val (.ref a), .val (.ref b), .val (.int (Int32.ofNat i1)), .val (.int (Int32.ofNat i2)), .val (.ref s1_), .val (.ref s2_), .val (.int (1 : Int32)), .val (.int (0 : Int32)), .val (.int (Int32.ofNat (own_first own_p59 ([x0, x1, x2, x3].take i1)))), .val (.int (Int32.ofNat (own_first own_p32 ([x0, x1, x2, x3].take (own_first own_p59 ([x0, x1, x2, x3].take i1)))))), .val (.int (Int32.ofNat (own_e ([x0, x1, x2, x3].take (own_first own_p59 ([x0, x1, x2, x3].take i1)))))), .val (.int (Int32.ofNat ((own_e ([x0, x1, x2, x3].take (own_first own_p59 ([x0, x1, x2, x3].take i1)))) - (own_first own_p32 ([x0, x1, x2, x3].take (own_first own_p59 ([x0, x1, x2, x3].take i1)))))))]) rfl ?_
              refine g_iload W884 at_286 (pc' := 288) rfl rfl ?_
              refine g_iload W884 at_288 (pc' := 290) rfl rfl ?_
              refine g_icY W884 at_290 (pc' := 297) (feq (by decide : ¬ ((1 : Int32) = (0 : Int32)))).2 (by decide) (by decide) ?_
              refine g_iconst W884 at_297 (pc' := 298) rfl (v := 0) rfl ?_
              exact g_iret W884 at_298 rfl (Or.inr (Or.inl rfl)) rfl (absurd ((ij.mp (hC ▸ hty)).2 0) e0)
          · skip
            refine g_icY W876 at_220 (pc' := 283) (feq c879).2 (by decide) (by decide) ?_
            refine g_iconst W876 at_283 (pc' := 284) rfl (v := 0) rfl ?_
            refine g_istore W876 at_284 (pc' := 286) rfl (ls' := #[.val (.int p1), .val (.int p2), .val (.int p3), .val (.ref a), .val (.ref b), .val (.int (Int32.ofNat i1)), .val (.int (Int32.ofNat i2)), .val (.ref s1_), .val (.ref s2_), .val (.int (1 : Int32)), .val (.int (0 : Int32)), .val (.int (Int32.ofNat (own_first own_p59 ([x0, x1, x2, x3].take i1)))), .val (.int (Int32.ofNat (own_first own_p32 ([x0, x1, x2, x3].take (own_first own_p59 ([x0, x1, x2, x3].take i1)))))), .val (.int (Int32.ofNat (own_e ([x0, x1, x2, x3].take (own_first own_p59 ([x0, x1, x2, x3].take i1)))))), .val (.int (Int32.ofNat ((own_e ([x0, x1, x2, x3].take (own_first own_p59 ([x0, x1, x2, x3].take i1)))) - (own_first own_p32 ([x0, x1, x2, x3].take (own_first own_p59 ([x0, x1, x2, x3].take i1)))))))]) rfl ?_
            refine g_iload W876 at_286 (pc' := 288) rfl rfl ?_
            refine g_iload W876 at_288 (pc' := 290) rfl rfl ?_
            refine g_icY W876 at_290 (pc' := 297) (feq (by decide : ¬ ((1 : Int32) = (0 : Int32)))).2 (by decide) (by decide) ?_
            refine g_iconst W876 at_297 (pc' := 298) rfl (v := 0) rfl ?_
            exact g_iret W876 at_298 rfl (Or.inr (Or.inl rfl)) rfl (absurd (ij.mp (hC ▸ hty)).1 (fun z => c879 (by rw [z])))
        · skip
          refine g_istore W855 at_163 (pc' := 165) rfl (ls' := #[.val (.int p1), .val (.int p2), .val (.int p3), .val (.ref a), .val (.ref b), .val (.int (Int32.ofNat i1)), .val (.int (Int32.ofNat i2)), .val (.ref s1_), .val (.ref s2_), .val (.int (0 : Int32)), .unset, .unset, .unset, .unset, .unset]) rfl ?_
          refine g_iload W855 at_165 (pc' := 167) rfl rfl ?_
          refine g_iconst W855 at_167 (pc' := 168) rfl (v := 5) rfl ?_
          refine g_icN W855 at_168 (pc' := 171) (feq c803).1 rfl ?_
          refine g_iload W855 at_171 (pc' := 173) rfl rfl ?_
          refine g_iconst W855 at_173 (pc' := 174) rfl (v := 5) rfl ?_
          refine g_icY W855 at_174 (pc' := 183) (feq c835).2 (by decide) (by decide) ?_
          refine g_aloadN W855 at_183 (pc' := 184) rfl rfl rfl ?_
          refine g_iload W855 at_184 (pc' := 186) rfl rfl ?_
          have hA := A.ext (own_ext_tr XX2 XI)
          have hD := D.ext (own_ext_tr XX2 XI)
          refine g_static W855 at_186 (pc' := 189) rfl (hw _ (List.mem_of_getElem? (i := 108) rfl)) (hw _ (List.mem_of_getElem? (i := 109) rfl)) (hw _ (List.mem_of_getElem? (i := 3) rfl)) (hw _ (List.mem_of_getElem? (i := 110) rfl)) (by decide) (con_fs l Z a0 hw hEL a kC x0 x1 x2 x3 h853 hA i1 h4_827) pd___CI_I (argsL := [(.ref a), (.int (Int32.ofNat i1))]) (st := []) rfl rfl rfl rfl (by decide) (w := 0) (Nat.le_of_eq rfl) (by decide) (by decide) (by decide) (by simp) (fun q hq => nomatch hq) ?_
          intro v908 T909 h910 S913 q911 W914
          have W912 := W914.sf (SF' := []) (fun _ hx => List.mem_append_right _ hx)
          obtain ⟨rfl, rfl⟩ := q911
          have hf4 : (own_first own_p59 ([x0, x1, x2, x3].take i1)) ≤ 4 := Nat.le_trans (own_first_le _ _) (by rw [List.length_take]; exact Nat.le_trans (Nat.min_le_right _ _) (Nat.le_refl 4))
          have hge := own_e_ge ([x0, x1, x2, x3].take (own_first own_p59 ([x0, x1, x2, x3].take i1)))
          have hle : (own_e ([x0, x1, x2, x3].take (own_first own_p59 ([x0, x1, x2, x3].take i1)))) ≤ 4 := Nat.le_trans (own_e_le _) (by rw [List.length_take]; exact Nat.le_trans (Nat.min_le_right _ _) (Nat.le_refl 4))
          have hC : (([x0, x1, x2, x3].take i1).take (own_first own_p59 ([x0, x1, x2, x3].take i1))) = ([x0, x1, x2, x3].take (own_first own_p59 ([x0, x1, x2, x3].take i1))) := by rw [List.take_take, Nat.min_eq_left (Nat.le_trans (own_first_le _ _) (List.length_take_le _ _))]
          have ij := own_join [x0, x1, x2, x3] [y0, y1, y2, y3] i2 (own_first own_p59 ([x0, x1, x2, x3].take i1)) (rfl : ([x0, x1, x2, x3].take (own_first own_p59 ([x0, x1, x2, x3].take i1))) = ([x0, x1, x2, x3].take (own_first own_p59 ([x0, x1, x2, x3].take i1)))) (show i2 ≤ 4 by omega)
          refine g_istore W912 at_189 (pc' := 191) rfl (ls' := #[.val (.int p1), .val (.int p2), .val (.int p3), .val (.ref a), .val (.ref b), .val (.int (Int32.ofNat i1)), .val (.int (Int32.ofNat i2)), .val (.ref s1_), .val (.ref s2_), .val (.int (0 : Int32)), .unset, .val (.int (Int32.ofNat (own_first own_p59 ([x0, x1, x2, x3].take i1)))), .unset, .unset, .unset]) rfl ?_
          refine g_aloadN W912 at_191 (pc' := 192) rfl rfl rfl ?_
          refine g_iload W912 at_192 (pc' := 194) rfl rfl ?_
          refine g_static W912 at_194 (pc' := 197) rfl (hw _ (List.mem_of_getElem? (i := 111) rfl)) (hw _ (List.mem_of_getElem? (i := 112) rfl)) (hw _ (List.mem_of_getElem? (i := 3) rfl)) (hw _ (List.mem_of_getElem? (i := 113) rfl)) (by decide) (con_srt l Z a0 hw hEL a kC x0 x1 x2 x3 h853 hA (own_first own_p59 ([x0, x1, x2, x3].take i1)) hf4) pd___CI_I (argsL := [(.ref a), (.int (Int32.ofNat (own_first own_p59 ([x0, x1, x2, x3].take i1))))]) (st := []) rfl rfl rfl rfl (by decide) (w := 0) (Nat.le_of_eq rfl) (by decide) (by decide) (by decide) (by simp) (fun q hq => nomatch hq) ?_
          intro v915 T916 h917 S920 q918 W921
          have W919 := W921.sf (SF' := []) (fun _ hx => List.mem_append_right _ hx)
          obtain ⟨rfl, rfl⟩ := q918
          refine g_istore W919 at_197 (pc' := 199) rfl (ls' := #[.val (.int p1), .val (.int p2), .val (.int p3), .val (.ref a), .val (.ref b), .val (.int (Int32.ofNat i1)), .val (.int (Int32.ofNat i2)), .val (.ref s1_), .val (.ref s2_), .val (.int (0 : Int32)), .unset, .val (.int (Int32.ofNat (own_first own_p59 ([x0, x1, x2, x3].take i1)))), .val (.int (Int32.ofNat (own_first own_p32 ([x0, x1, x2, x3].take (own_first own_p59 ([x0, x1, x2, x3].take i1)))))), .unset, .unset]) rfl ?_
          refine g_aloadN W919 at_199 (pc' := 200) rfl rfl rfl ?_
          refine g_iload W919 at_200 (pc' := 202) rfl rfl ?_
          refine g_iload W919 at_202 (pc' := 204) rfl rfl ?_
          refine g_static W919 at_204 (pc' := 207) rfl (hw _ (List.mem_of_getElem? (i := 114) rfl)) (hw _ (List.mem_of_getElem? (i := 115) rfl)) (hw _ (List.mem_of_getElem? (i := 3) rfl)) (hw _ (List.mem_of_getElem? (i := 116) rfl)) (by decide) (con_en l Z a0 hw hEL a kC x0 x1 x2 x3 h853 hA (own_first own_p59 ([x0, x1, x2, x3].take i1)) (own_first own_p32 ([x0, x1, x2, x3].take (own_first own_p59 ([x0, x1, x2, x3].take i1)))) hf4 rfl) pd___CII_I (argsL := [(.ref a), (.int (Int32.ofNat (own_first own_p59 ([x0, x1, x2, x3].take i1)))), (.int (Int32.ofNat (own_first own_p32 ([x0, x1, x2, x3].take (own_first own_p59 ([x0, x1, x2, x3].take i1))))))]) (st := []) rfl rfl rfl rfl (by decide) (w := 0) (Nat.le_of_eq rfl) (by decide) (by decide) (by decide) (by simp) (fun q hq => nomatch hq) ?_
          intro v922 T923 h924 S927 q925 W928
          have W926 := W928.sf (SF' := []) (fun _ hx => List.mem_append_right _ hx)
          obtain ⟨rfl, rfl⟩ := q925
          refine g_istore W926 at_207 (pc' := 209) rfl (ls' := #[.val (.int p1), .val (.int p2), .val (.int p3), .val (.ref a), .val (.ref b), .val (.int (Int32.ofNat i1)), .val (.int (Int32.ofNat i2)), .val (.ref s1_), .val (.ref s2_), .val (.int (0 : Int32)), .unset, .val (.int (Int32.ofNat (own_first own_p59 ([x0, x1, x2, x3].take i1)))), .val (.int (Int32.ofNat (own_first own_p32 ([x0, x1, x2, x3].take (own_first own_p59 ([x0, x1, x2, x3].take i1)))))), .val (.int (Int32.ofNat (own_e ([x0, x1, x2, x3].take (own_first own_p59 ([x0, x1, x2, x3].take i1)))))), .unset]) rfl ?_
          refine g_iload W926 at_209 (pc' := 211) rfl rfl ?_
          refine g_iload W926 at_211 (pc' := 213) rfl rfl ?_
          refine g_isub W926 at_213 (pc' := 214) rfl ?_
          rw [own_subn (by omega) hge]
          refine g_istore W926 at_214 (pc' := 216) rfl (ls' := #[.val (.int p1), .val (.int p2), .val (.int p3), .val (.ref a), .val (.ref b), .val (.int (Int32.ofNat i1)), .val (.int (Int32.ofNat i2)), .val (.ref s1_), .val (.ref s2_), .val (.int (0 : Int32)), .unset, .val (.int (Int32.ofNat (own_first own_p59 ([x0, x1, x2, x3].take i1)))), .val (.int (Int32.ofNat (own_first own_p32 ([x0, x1, x2, x3].take (own_first own_p59 ([x0, x1, x2, x3].take i1)))))), .val (.int (Int32.ofNat (own_e ([x0, x1, x2, x3].take (own_first own_p59 ([x0, x1, x2, x3].take i1)))))), .val (.int (Int32.ofNat ((own_e ([x0, x1, x2, x3].take (own_first own_p59 ([x0, x1, x2, x3].take i1)))) - (own_first own_p32 ([x0, x1, x2, x3].take (own_first own_p59 ([x0, x1, x2, x3].take i1)))))))]) rfl ?_
          refine g_iload W926 at_216 (pc' := 218) rfl rfl ?_
          refine g_iload W926 at_218 (pc' := 220) rfl rfl ?_
          by_cases c929 : (Int32.ofNat ((own_e ([x0, x1, x2, x3].take (own_first own_p59 ([x0, x1, x2, x3].take i1)))) - (own_first own_p32 ([x0, x1, x2, x3].take (own_first own_p59 ([x0, x1, x2, x3].take i1)))))) = (Int32.ofNat i2)
          · skip
            refine g_icN W926 at_220 (pc' := 223) (teq c929).2 rfl ?_
            refine g_aloadN W926 at_223 (pc' := 224) rfl rfl rfl ?_
            refine g_iload W926 at_224 (pc' := 226) rfl rfl ?_
            refine g_aload W926 at_226 (pc' := 228) rfl rfl rfl ?_
            refine g_iconst W926 at_228 (pc' := 229) rfl (v := 0) rfl ?_
            refine g_iload W926 at_229 (pc' := 231) rfl rfl ?_
            refine g_static W926 at_231 (pc' := 234) rfl (hw _ (List.mem_of_getElem? (i := 117) rfl)) (hw _ (List.mem_of_getElem? (i := 118) rfl)) (hw _ (List.mem_of_getElem? (i := 3) rfl)) (hw _ (List.mem_of_getElem? (i := 119) rfl)) (by decide) (con_eqa0 l Z a0 hw hEL a kC x0 x1 x2 x3 h853 hA b kD y0 y1 y2 y3 hD (own_first own_p32 ([x0, x1, x2, x3].take (own_first own_p59 ([x0, x1, x2, x3].take i1)))) ((own_e ([x0, x1, x2, x3].take (own_first own_p59 ([x0, x1, x2, x3].take i1)))) - (own_first own_p32 ([x0, x1, x2, x3].take (own_first own_p59 ([x0, x1, x2, x3].take i1))))) (by omega)) pd___CI_CII_Z (argsL := [(.ref a), (.int (Int32.ofNat (own_first own_p32 ([x0, x1, x2, x3].take (own_first own_p59 ([x0, x1, x2, x3].take i1)))))), (.ref b), (.int (0 : Int32)), (.int (Int32.ofNat ((own_e ([x0, x1, x2, x3].take (own_first own_p59 ([x0, x1, x2, x3].take i1)))) - (own_first own_p32 ([x0, x1, x2, x3].take (own_first own_p59 ([x0, x1, x2, x3].take i1)))))))]) (st := []) rfl rfl rfl rfl (by decide) (w := 0) (Nat.le_of_eq rfl) (by decide) (by decide) (by decide) (by simp) (fun q hq => nomatch hq) ?_
            intro v930 T931 h932 S935 q933 W936
            have W934 := W936.sf (SF' := []) (fun _ hx => List.mem_append_right _ hx)
            obtain ⟨rfl, ⟨rfl, e0⟩ | ⟨rfl, e0⟩⟩ := q933
            · skip
              refine g_ifN W934 at_234 (pc' := 237) (feq (by decide : ¬ ((1 : Int32) = (0 : Int32)))).1 rfl ?_
              refine g_aloadN W934 at_237 (pc' := 238) rfl rfl rfl ?_
              refine g_iload W934 at_238 (pc' := 240) rfl rfl ?_
              refine g_aload W934 at_240 (pc' := 242) rfl rfl rfl ?_
              refine g_iconst W934 at_242 (pc' := 243) rfl (v := 1) rfl ?_
              refine g_iload W934 at_243 (pc' := 245) rfl rfl ?_
              refine g_static W934 at_245 (pc' := 248) rfl (hw _ (List.mem_of_getElem? (i := 117) rfl)) (hw _ (List.mem_of_getElem? (i := 118) rfl)) (hw _ (List.mem_of_getElem? (i := 3) rfl)) (hw _ (List.mem_of_getElem? (i := 119) rfl)) (by decide) (con_eqa1 l Z a0 hw hEL a kC x0 x1 x2 x3 h853 hA b kD y0 y1 y2 y3 hD (own_first own_p32 ([x0, x1, x2, x3].take (own_first own_p59 ([x0, x1, x2, x3].take i1)))) ((own_e ([x0, x1, x2, x3].take (own_first own_p59 ([x0, x1, x2, x3].take i1)))) - (own_first own_p32 ([x0, x1, x2, x3].take (own_first own_p59 ([x0, x1, x2, x3].take i1))))) (by omega)) pd___CI_CII_Z (argsL := [(.ref a), (.int (Int32.ofNat (own_first own_p32 ([x0, x1, x2, x3].take (own_first own_p59 ([x0, x1, x2, x3].take i1)))))), (.ref b), (.int (1 : Int32)), (.int (Int32.ofNat ((own_e ([x0, x1, x2, x3].take (own_first own_p59 ([x0, x1, x2, x3].take i1)))) - (own_first own_p32 ([x0, x1, x2, x3].take (own_first own_p59 ([x0, x1, x2, x3].take i1)))))))]) (st := []) rfl rfl rfl rfl (by decide) (w := 0) (Nat.le_of_eq rfl) (by decide) (by decide) (by decide) (by simp) (fun q hq => nomatch hq) ?_
              intro v937 T938 h939 S942 q940 W943
              have W941 := W943.sf (SF' := []) (fun _ hx => List.mem_append_right _ hx)
              obtain ⟨rfl, ⟨rfl, e1⟩ | ⟨rfl, e1⟩⟩ := q940
              · skip
                refine g_ifN W941 at_248 (pc' := 251) (feq (by decide : ¬ ((1 : Int32) = (0 : Int32)))).1 rfl ?_
                refine g_aloadN W941 at_251 (pc' := 252) rfl rfl rfl ?_
                refine g_iload W941 at_252 (pc' := 254) rfl rfl ?_
                refine g_aload W941 at_254 (pc' := 256) rfl rfl rfl ?_
                refine g_iconst W941 at_256 (pc' := 257) rfl (v := 2) rfl ?_
                refine g_iload W941 at_257 (pc' := 259) rfl rfl ?_
                refine g_static W941 at_259 (pc' := 262) rfl (hw _ (List.mem_of_getElem? (i := 117) rfl)) (hw _ (List.mem_of_getElem? (i := 118) rfl)) (hw _ (List.mem_of_getElem? (i := 3) rfl)) (hw _ (List.mem_of_getElem? (i := 119) rfl)) (by decide) (con_eqa2 l Z a0 hw hEL a kC x0 x1 x2 x3 h853 hA b kD y0 y1 y2 y3 hD (own_first own_p32 ([x0, x1, x2, x3].take (own_first own_p59 ([x0, x1, x2, x3].take i1)))) ((own_e ([x0, x1, x2, x3].take (own_first own_p59 ([x0, x1, x2, x3].take i1)))) - (own_first own_p32 ([x0, x1, x2, x3].take (own_first own_p59 ([x0, x1, x2, x3].take i1))))) (by omega)) pd___CI_CII_Z (argsL := [(.ref a), (.int (Int32.ofNat (own_first own_p32 ([x0, x1, x2, x3].take (own_first own_p59 ([x0, x1, x2, x3].take i1)))))), (.ref b), (.int (2 : Int32)), (.int (Int32.ofNat ((own_e ([x0, x1, x2, x3].take (own_first own_p59 ([x0, x1, x2, x3].take i1)))) - (own_first own_p32 ([x0, x1, x2, x3].take (own_first own_p59 ([x0, x1, x2, x3].take i1)))))))]) (st := []) rfl rfl rfl rfl (by decide) (w := 0) (Nat.le_of_eq rfl) (by decide) (by decide) (by decide) (by simp) (fun q hq => nomatch hq) ?_
                intro v944 T945 h946 S949 q947 W950
                have W948 := W950.sf (SF' := []) (fun _ hx => List.mem_append_right _ hx)
                obtain ⟨rfl, ⟨rfl, e2⟩ | ⟨rfl, e2⟩⟩ := q947
                · skip
                  refine g_ifN W948 at_262 (pc' := 265) (feq (by decide : ¬ ((1 : Int32) = (0 : Int32)))).1 rfl ?_
                  refine g_aloadN W948 at_265 (pc' := 266) rfl rfl rfl ?_
                  refine g_iload W948 at_266 (pc' := 268) rfl rfl ?_
                  refine g_aload W948 at_268 (pc' := 270) rfl rfl rfl ?_
                  refine g_iconst W948 at_270 (pc' := 271) rfl (v := 3) rfl ?_
                  refine g_iload W948 at_271 (pc' := 273) rfl rfl ?_
                  refine g_static W948 at_273 (pc' := 276) rfl (hw _ (List.mem_of_getElem? (i := 117) rfl)) (hw _ (List.mem_of_getElem? (i := 118) rfl)) (hw _ (List.mem_of_getElem? (i := 3) rfl)) (hw _ (List.mem_of_getElem? (i := 119) rfl)) (by decide) (con_eqa3 l Z a0 hw hEL a kC x0 x1 x2 x3 h853 hA b kD y0 y1 y2 y3 hD (own_first own_p32 ([x0, x1, x2, x3].take (own_first own_p59 ([x0, x1, x2, x3].take i1)))) ((own_e ([x0, x1, x2, x3].take (own_first own_p59 ([x0, x1, x2, x3].take i1)))) - (own_first own_p32 ([x0, x1, x2, x3].take (own_first own_p59 ([x0, x1, x2, x3].take i1))))) (by omega)) pd___CI_CII_Z (argsL := [(.ref a), (.int (Int32.ofNat (own_first own_p32 ([x0, x1, x2, x3].take (own_first own_p59 ([x0, x1, x2, x3].take i1)))))), (.ref b), (.int (3 : Int32)), (.int (Int32.ofNat ((own_e ([x0, x1, x2, x3].take (own_first own_p59 ([x0, x1, x2, x3].take i1)))) - (own_first own_p32 ([x0, x1, x2, x3].take (own_first own_p59 ([x0, x1, x2, x3].take i1)))))))]) (st := []) rfl rfl rfl rfl (by decide) (w := 0) (Nat.le_of_eq rfl) (by decide) (by decide) (by decide) (by simp) (fun q hq => nomatch hq) ?_
                  intro v951 T952 h953 S956 q954 W957
                  have W955 := W957.sf (SF' := []) (fun _ hx => List.mem_append_right _ hx)
                  obtain ⟨rfl, ⟨rfl, e3⟩ | ⟨rfl, e3⟩⟩ := q954
                  · skip
                    refine g_ifN W955 at_276 (pc' := 279) (feq (by decide : ¬ ((1 : Int32) = (0 : Int32)))).1 rfl ?_
                    refine g_iconst W955 at_279 (pc' := 280) rfl (v := 1) rfl ?_
                    refine g_goto W955 at_280 (pc' := 284) (by decide) (by decide) ?_
                    refine g_istore W955 at_284 (pc' := 286) rfl (ls' := #[.val (.int p1), .val (.int p2), .val (.int p3), .val (.ref a), .val (.ref b), .val (.int (Int32.ofNat i1)), .val (.int (Int32.ofNat i2)), .val (.ref s1_), .val (.ref s2_), .val (.int (0 : Int32)), .val (.int (1 : Int32)), .val (.int (Int32.ofNat (own_first own_p59 ([x0, x1, x2, x3].take i1)))), .val (.int (Int32.ofNat (own_first own_p32 ([x0, x1, x2, x3].take (own_first own_p59 ([x0, x1, x2, x3].take i1)))))), .val (.int (Int32.ofNat (own_e ([x0, x1, x2, x3].take (own_first own_p59 ([x0, x1, x2, x3].take i1)))))), .val (.int (Int32.ofNat ((own_e ([x0, x1, x2, x3].take (own_first own_p59 ([x0, x1, x2, x3].take i1)))) - (own_first own_p32 ([x0, x1, x2, x3].take (own_first own_p59 ([x0, x1, x2, x3].take i1)))))))]) rfl ?_
                    refine g_iload W955 at_286 (pc' := 288) rfl rfl ?_
                    refine g_iload W955 at_288 (pc' := 290) rfl rfl ?_
                    refine g_icY W955 at_290 (pc' := 297) (feq (by decide : ¬ ((0 : Int32) = (1 : Int32)))).2 (by decide) (by decide) ?_
                    refine g_iconst W955 at_297 (pc' := 298) rfl (v := 0) rfl ?_
                    exact g_iret W955 at_298 rfl (Or.inr (Or.inl rfl)) rfl (absurd (hC.symm ▸ ij.mpr ⟨own_inj (by omega) (by omega) c929, fun j hj => own_four hj (by omega) e0 e1 e2 e3⟩) hty)
                  · skip
                    refine g_ifY W955 at_276 (pc' := 283) (teq (by decide : (0 : Int32) = (0 : Int32))).1 (by decide) (by decide) ?_
                    refine g_iconst W955 at_283 (pc' := 284) rfl (v := 0) rfl ?_
                    refine g_istore W955 at_284 (pc' := 286) rfl (ls' := #[.val (.int p1), .val (.int p2), .val (.int p3), .val (.ref a), .val (.ref b), .val (.int (Int32.ofNat i1)), .val (.int (Int32.ofNat i2)), .val (.ref s1_), .val (.ref s2_), .val (.int (0 : Int32)), .val (.int (0 : Int32)), .val (.int (Int32.ofNat (own_first own_p59 ([x0, x1, x2, x3].take i1)))), .val (.int (Int32.ofNat (own_first own_p32 ([x0, x1, x2, x3].take (own_first own_p59 ([x0, x1, x2, x3].take i1)))))), .val (.int (Int32.ofNat (own_e ([x0, x1, x2, x3].take (own_first own_p59 ([x0, x1, x2, x3].take i1)))))), .val (.int (Int32.ofNat ((own_e ([x0, x1, x2, x3].take (own_first own_p59 ([x0, x1, x2, x3].take i1)))) - (own_first own_p32 ([x0, x1, x2, x3].take (own_first own_p59 ([x0, x1, x2, x3].take i1)))))))]) rfl ?_
                    refine g_iload W955 at_286 (pc' := 288) rfl rfl ?_
                    refine g_iload W955 at_288 (pc' := 290) rfl rfl ?_
                    refine g_icN W955 at_290 (pc' := 293) (teq (by decide : (0 : Int32) = (0 : Int32))).2 rfl ?_
                    refine g_iconst W955 at_293 (pc' := 294) rfl (v := 1) rfl ?_
                    refine g_goto W955 at_294 (pc' := 298) (by decide) (by decide) ?_
                    exact g_iret W955 at_298 rfl (Or.inr (Or.inl rfl)) rfl rfl
                · skip
                  refine g_ifY W948 at_262 (pc' := 283) (teq (by decide : (0 : Int32) = (0 : Int32))).1 (by decide) (by decide) ?_
                  refine g_iconst W948 at_283 (pc' := 284) rfl (v := 0) rfl ?_
                  refine g_istore W948 at_284 (pc' := 286) rfl (ls' := #[.val (.int p1), .val (.int p2), .val (.int p3), .val (.ref a), .val (.ref b), .val (.int (Int32.ofNat i1)), .val (.int (Int32.ofNat i2)), .val (.ref s1_), .val (.ref s2_), .val (.int (0 : Int32)), .val (.int (0 : Int32)), .val (.int (Int32.ofNat (own_first own_p59 ([x0, x1, x2, x3].take i1)))), .val (.int (Int32.ofNat (own_first own_p32 ([x0, x1, x2, x3].take (own_first own_p59 ([x0, x1, x2, x3].take i1)))))), .val (.int (Int32.ofNat (own_e ([x0, x1, x2, x3].take (own_first own_p59 ([x0, x1, x2, x3].take i1)))))), .val (.int (Int32.ofNat ((own_e ([x0, x1, x2, x3].take (own_first own_p59 ([x0, x1, x2, x3].take i1)))) - (own_first own_p32 ([x0, x1, x2, x3].take (own_first own_p59 ([x0, x1, x2, x3].take i1)))))))]) rfl ?_
                  refine g_iload W948 at_286 (pc' := 288) rfl rfl ?_
                  refine g_iload W948 at_288 (pc' := 290) rfl rfl ?_
                  refine g_icN W948 at_290 (pc' := 293) (teq (by decide : (0 : Int32) = (0 : Int32))).2 rfl ?_
                  refine g_iconst W948 at_293 (pc' := 294) rfl (v := 1) rfl ?_
                  refine g_goto W948 at_294 (pc' := 298) (by decide) (by decide) ?_
                  exact g_iret W948 at_298 rfl (Or.inr (Or.inl rfl)) rfl rfl
              · skip
                refine g_ifY W941 at_248 (pc' := 283) (teq (by decide : (0 : Int32) = (0 : Int32))).1 (by decide) (by decide) ?_
                refine g_iconst W941 at_283 (pc' := 284) rfl (v := 0) rfl ?_
                refine g_istore W941 at_284 (pc' := 286) rfl (ls' := #[.val (.int p1), .val (.int p2), .val (.int p3), .val (.ref a), .val (.ref b), .val (.int (Int32.ofNat i1)), .val (.int (Int32.ofNat i2)), .val (.ref s1_), .val (.ref s2_), .val (.int (0 : Int32)), .val (.int (0 : Int32)), .val (.int (Int32.ofNat (own_first own_p59 ([x0, x1, x2, x3].take i1)))), .val (.int (Int32.ofNat (own_first own_p32 ([x0, x1, x2, x3].take (own_first own_p59 ([x0, x1, x2, x3].take i1)))))), .val (.int (Int32.ofNat (own_e ([x0, x1, x2, x3].take (own_first own_p59 ([x0, x1, x2, x3].take i1)))))), .val (.int (Int32.ofNat ((own_e ([x0, x1, x2, x3].take (own_first own_p59 ([x0, x1, x2, x3].take i1)))) - (own_first own_p32 ([x0, x1, x2, x3].take (own_first own_p59 ([x0, x1, x2, x3].take i1)))))))]) rfl ?_
                refine g_iload W941 at_286 (pc' := 288) rfl rfl ?_
                refine g_iload W941 at_288 (pc' := 290) rfl rfl ?_
                refine g_icN W941 at_290 (pc' := 293) (teq (by decide : (0 : Int32) = (0 : Int32))).2 rfl ?_
                refine g_iconst W941 at_293 (pc' := 294) rfl (v := 1) rfl ?_
                refine g_goto W941 at_294 (pc' := 298) (by decide) (by decide) ?_
                exact g_iret W941 at_298 rfl (Or.inr (Or.inl rfl)) rfl rfl
            · skip
              refine g_ifY W934 at_234 (pc' := 283) (teq (by decide : (0 : Int32) = (0 : Int32))).1 (by decide) (by decide) ?_
              refine g_iconst W934 at_283 (pc' := 284) rfl (v := 0) rfl ?_
              refine g_istore W934 at_284 (pc' := 286) rfl (ls' := #[.val (.int p1), .val (.int p2), .val (.int p3), .val (.ref a), .val (.ref b), .val (.int (Int32.ofNat i1)), .val (.int (Int32.ofNat i2)), .val (.ref s1_), .val (.ref s2_), .val (.int (0 : Int32)), .val (.int (0 : Int32)), .val (.int (Int32.ofNat (own_first own_p59 ([x0, x1, x2, x3].take i1)))), .val (.int (Int32.ofNat (own_first own_p32 ([x0, x1, x2, x3].take (own_first own_p59 ([x0, x1, x2, x3].take i1)))))), .val (.int (Int32.ofNat (own_e ([x0, x1, x2, x3].take (own_first own_p59 ([x0, x1, x2, x3].take i1)))))), .val (.int (Int32.ofNat ((own_e ([x0, x1, x2, x3].take (own_first own_p59 ([x0, x1, x2, x3].take i1)))) - (own_first own_p32 ([x0, x1, x2, x3].take (own_first own_p59 ([x0, x1, x2, x3].take i1)))))))]) rfl ?_
              refine g_iload W934 at_286 (pc' := 288) rfl rfl ?_
              refine g_iload W934 at_288 (pc' := 290) rfl rfl ?_
              refine g_icN W934 at_290 (pc' := 293) (teq (by decide : (0 : Int32) = (0 : Int32))).2 rfl ?_
              refine g_iconst W934 at_293 (pc' := 294) rfl (v := 1) rfl ?_
              refine g_goto W934 at_294 (pc' := 298) (by decide) (by decide) ?_
              exact g_iret W934 at_298 rfl (Or.inr (Or.inl rfl)) rfl rfl
          · skip
            refine g_icY W926 at_220 (pc' := 283) (feq c929).2 (by decide) (by decide) ?_
            refine g_iconst W926 at_283 (pc' := 284) rfl (v := 0) rfl ?_
            refine g_istore W926 at_284 (pc' := 286) rfl (ls' := #[.val (.int p1), .val (.int p2), .val (.int p3), .val (.ref a), .val (.ref b), .val (.int (Int32.ofNat i1)), .val (.int (Int32.ofNat i2)), .val (.ref s1_), .val (.ref s2_), .val (.int (0 : Int32)), .val (.int (0 : Int32)), .val (.int (Int32.ofNat (own_first own_p59 ([x0, x1, x2, x3].take i1)))), .val (.int (Int32.ofNat (own_first own_p32 ([x0, x1, x2, x3].take (own_first own_p59 ([x0, x1, x2, x3].take i1)))))), .val (.int (Int32.ofNat (own_e ([x0, x1, x2, x3].take (own_first own_p59 ([x0, x1, x2, x3].take i1)))))), .val (.int (Int32.ofNat ((own_e ([x0, x1, x2, x3].take (own_first own_p59 ([x0, x1, x2, x3].take i1)))) - (own_first own_p32 ([x0, x1, x2, x3].take (own_first own_p59 ([x0, x1, x2, x3].take i1)))))))]) rfl ?_
            refine g_iload W926 at_286 (pc' := 288) rfl rfl ?_
            refine g_iload W926 at_288 (pc' := 290) rfl rfl ?_
            refine g_icN W926 at_290 (pc' := 293) (teq (by decide : (0 : Int32) = (0 : Int32))).2 rfl ?_
            refine g_iconst W926 at_293 (pc' := 294) rfl (v := 1) rfl ?_
            refine g_goto W926 at_294 (pc' := 298) (by decide) (by decide) ?_
            exact g_iret W926 at_298 rfl (Or.inr (Or.inl rfl)) rfl rfl
  have ef : entryFrame m #[(.int p1), (.int p2), (.int p3)] maxLocals = mkF m 0 #[.val (.int p1), .val (.int p2), .val (.int p3), .unset, .unset, .unset, .unset, .unset, .unset, .unset, .unset, .unset, .unset, .unset, .unset] [] := by first | rfl | (simp [entryFrame, mkF, argsToLocals, Value.category, maxLocals]; done)
  rw [ef]
  refine g_iconst W00 at_0 (pc' := 1) rfl (v := 4) rfl ?_
  refine g_newP W00 at_1 (pc' := 3) (cap := 4) rfl (ty := .char) (dv := (.int 0)) rfl rfl (hw _ (List.mem_of_getElem? (i := 0) rfl)) (by decide) (by decide) (by decide) (by decide) (by decide) ?_
  intro T958 h959 cA960 E961 A962 W963
  obtain ⟨a964, g965⟩ : ∃ z, z = h0.size := ⟨_, rfl⟩
  rw [← g965] at A962 W963 ⊢
  have naa964 : s.heap.size ≤ a964 := by rw [g965]; exact W00.grown
  have X966 := own_ext_tr (own_ext_rf h0) E961
  refine g_dup W963 at_3 (pc' := 4) rfl rfl ?_
  refine g_iconst W963 at_4 (pc' := 5) rfl (v := 0) rfl ?_
  refine g_iloadN W963 at_5 (pc' := 6) rfl rfl ?_
  refine g_sipush W963 at_6 (pc' := 9) rfl (v := 255) rfl ?_
  refine g_iand W963 at_9 (pc' := 10) rfl ?_
  refine g_i2c W963 at_10 (pc' := 11) rfl ?_
  rw [i2c_mask]
  refine g_castore W963 at_11 (pc' := 12) rfl (own_pad0 4 A962) (i := 0) rfl (by decide) (by first | decide | simp) (y := (p1 &&& (255 : Int32))) (i2c_mask _) (vs' := [(.int (p1 &&& (255 : Int32))), (.int (0 : Int32)), (.int (0 : Int32)), (.int (0 : Int32))]) rfl (by simp) (Or.inr naa964) ?_
  intro T967 h968 w969 A970 W971
  have X972 : Ext h0 h968 := own_ext_wr X966 w969 (by rw [← hs]; exact naa964)
  refine g_dup W971 at_12 (pc' := 13) rfl rfl ?_
  refine g_iconst W971 at_13 (pc' := 14) rfl (v := 1) rfl ?_
  refine g_iloadN W971 at_14 (pc' := 15) rfl rfl ?_
  refine g_bipush W971 at_15 (pc' := 17) rfl (v := 8) rfl ?_
  refine g_iushr W971 at_17 (pc' := 18) rfl ?_
  refine g_sipush W971 at_18 (pc' := 21) rfl (v := 255) rfl ?_
  refine g_iand W971 at_21 (pc' := 22) rfl ?_
  refine g_i2c W971 at_22 (pc' := 23) rfl ?_
  rw [i2c_mask]
  refine g_castore W971 at_23 (pc' := 24) rfl A970 (i := 1) rfl (by decide) (by first | decide | simp) (y := ((XT.ushr p1 (8 : Int32)) &&& (255 : Int32))) (i2c_mask _) (vs' := [(.int (p1 &&& (255 : Int32))), (.int ((XT.ushr p1 (8 : Int32)) &&& (255 : Int32))), (.int (0 : Int32)), (.int (0 : Int32))]) rfl (by simp) (Or.inr naa964) ?_
  intro T973 h974 w975 A976 W977
  have X978 : Ext h0 h974 := own_ext_wr X972 w975 (by rw [← hs]; exact naa964)
  refine g_dup W977 at_24 (pc' := 25) rfl rfl ?_
  refine g_iconst W977 at_25 (pc' := 26) rfl (v := 2) rfl ?_
  refine g_iloadN W977 at_26 (pc' := 27) rfl rfl ?_
  refine g_bipush W977 at_27 (pc' := 29) rfl (v := 16) rfl ?_
  refine g_iushr W977 at_29 (pc' := 30) rfl ?_
  refine g_sipush W977 at_30 (pc' := 33) rfl (v := 255) rfl ?_
  refine g_iand W977 at_33 (pc' := 34) rfl ?_
  refine g_i2c W977 at_34 (pc' := 35) rfl ?_
  rw [i2c_mask]
  refine g_castore W977 at_35 (pc' := 36) rfl A976 (i := 2) rfl (by decide) (by first | decide | simp) (y := ((XT.ushr p1 (16 : Int32)) &&& (255 : Int32))) (i2c_mask _) (vs' := [(.int (p1 &&& (255 : Int32))), (.int ((XT.ushr p1 (8 : Int32)) &&& (255 : Int32))), (.int ((XT.ushr p1 (16 : Int32)) &&& (255 : Int32))), (.int (0 : Int32))]) rfl (by simp) (Or.inr naa964) ?_
  intro T979 h980 w981 A982 W983
  have X984 : Ext h0 h980 := own_ext_wr X978 w981 (by rw [← hs]; exact naa964)
  refine g_dup W983 at_36 (pc' := 37) rfl rfl ?_
  refine g_iconst W983 at_37 (pc' := 38) rfl (v := 3) rfl ?_
  refine g_iloadN W983 at_38 (pc' := 39) rfl rfl ?_
  refine g_bipush W983 at_39 (pc' := 41) rfl (v := 24) rfl ?_
  refine g_iushr W983 at_41 (pc' := 42) rfl ?_
  refine g_sipush W983 at_42 (pc' := 45) rfl (v := 255) rfl ?_
  refine g_iand W983 at_45 (pc' := 46) rfl ?_
  refine g_i2c W983 at_46 (pc' := 47) rfl ?_
  rw [i2c_mask]
  refine g_castore W983 at_47 (pc' := 48) rfl A982 (i := 3) rfl (by decide) (by first | decide | simp) (y := ((XT.ushr p1 (24 : Int32)) &&& (255 : Int32))) (i2c_mask _) (vs' := [(.int (p1 &&& (255 : Int32))), (.int ((XT.ushr p1 (8 : Int32)) &&& (255 : Int32))), (.int ((XT.ushr p1 (16 : Int32)) &&& (255 : Int32))), (.int ((XT.ushr p1 (24 : Int32)) &&& (255 : Int32)))]) rfl (by simp) (Or.inr naa964) ?_
  intro T985 h986 w987 A988 W989
  have X990 : Ext h0 h986 := own_ext_wr X984 w987 (by rw [← hs]; exact naa964)
  refine g_astoreN W989 at_48 (pc' := 49) rfl (ls' := #[.val (.int p1), .val (.int p2), .val (.int p3), .val (.ref a964), .unset, .unset, .unset, .unset, .unset, .unset, .unset, .unset, .unset, .unset, .unset]) rfl rfl ?_
  refine g_iconst W989 at_49 (pc' := 50) rfl (v := 4) rfl ?_
  refine g_newP W989 at_50 (pc' := 52) (cap := 4) rfl (ty := .char) (dv := (.int 0)) rfl rfl (hw _ (List.mem_of_getElem? (i := 0) rfl)) (by decide) (by decide) (by decide) (by decide) (by decide) ?_
  intro T991 h992 cA993 E994 A995 W996
  obtain ⟨a997, g998⟩ : ∃ z, z = h986.size := ⟨_, rfl⟩
  rw [← g998] at A995 W996 ⊢
  have naa997 : s.heap.size ≤ a997 := by rw [g998]; exact W989.grown
  have X999 := own_ext_tr X990 E994
  refine g_dup W996 at_52 (pc' := 53) rfl rfl ?_
  refine g_iconst W996 at_53 (pc' := 54) rfl (v := 0) rfl ?_
  refine g_iloadN W996 at_54 (pc' := 55) rfl rfl ?_
  refine g_sipush W996 at_55 (pc' := 58) rfl (v := 255) rfl ?_
  refine g_iand W996 at_58 (pc' := 59) rfl ?_
  refine g_i2c W996 at_59 (pc' := 60) rfl ?_
  rw [i2c_mask]
  refine g_castore W996 at_60 (pc' := 61) rfl (own_pad0 4 A995) (i := 0) rfl (by decide) (by first | decide | simp) (y := (p2 &&& (255 : Int32))) (i2c_mask _) (vs' := [(.int (p2 &&& (255 : Int32))), (.int (0 : Int32)), (.int (0 : Int32)), (.int (0 : Int32))]) rfl (by simp) (Or.inr naa997) ?_
  intro T1000 h1001 w1002 A1003 W1004
  have X1005 : Ext h0 h1001 := own_ext_wr X999 w1002 (by rw [← hs]; exact naa997)
  have A1006 := ((A988.ext E994)).other w1002 (by have := (A988).lt; rw [g998]; exact Nat.ne_of_lt this)
  refine g_dup W1004 at_61 (pc' := 62) rfl rfl ?_
  refine g_iconst W1004 at_62 (pc' := 63) rfl (v := 1) rfl ?_
  refine g_iloadN W1004 at_63 (pc' := 64) rfl rfl ?_
  refine g_bipush W1004 at_64 (pc' := 66) rfl (v := 8) rfl ?_
  refine g_iushr W1004 at_66 (pc' := 67) rfl ?_
  refine g_sipush W1004 at_67 (pc' := 70) rfl (v := 255) rfl ?_
  refine g_iand W1004 at_70 (pc' := 71) rfl ?_
  refine g_i2c W1004 at_71 (pc' := 72) rfl ?_
  rw [i2c_mask]
  refine g_castore W1004 at_72 (pc' := 73) rfl A1003 (i := 1) rfl (by decide) (by first | decide | simp) (y := ((XT.ushr p2 (8 : Int32)) &&& (255 : Int32))) (i2c_mask _) (vs' := [(.int (p2 &&& (255 : Int32))), (.int ((XT.ushr p2 (8 : Int32)) &&& (255 : Int32))), (.int (0 : Int32)), (.int (0 : Int32))]) rfl (by simp) (Or.inr naa997) ?_
  intro T1007 h1008 w1009 A1010 W1011
  have X1012 : Ext h0 h1008 := own_ext_wr X1005 w1009 (by rw [← hs]; exact naa997)
  have A1013 := (A1006).other w1009 (by have := (A988).lt; rw [g998]; exact Nat.ne_of_lt this)
  refine g_dup W1011 at_73 (pc' := 74) rfl rfl ?_
  refine g_iconst W1011 at_74 (pc' := 75) rfl (v := 2) rfl ?_
  refine g_iloadN W1011 at_75 (pc' := 76) rfl rfl ?_
  refine g_bipush W1011 at_76 (pc' := 78) rfl (v := 16) rfl ?_
  refine g_iushr W1011 at_78 (pc' := 79) rfl ?_
  refine g_sipush W1011 at_79 (pc' := 82) rfl (v := 255) rfl ?_
  refine g_iand W1011 at_82 (pc' := 83) rfl ?_
  refine g_i2c W1011 at_83 (pc' := 84) rfl ?_
  rw [i2c_mask]
  refine g_castore W1011 at_84 (pc' := 85) rfl A1010 (i := 2) rfl (by decide) (by first | decide | simp) (y := ((XT.ushr p2 (16 : Int32)) &&& (255 : Int32))) (i2c_mask _) (vs' := [(.int (p2 &&& (255 : Int32))), (.int ((XT.ushr p2 (8 : Int32)) &&& (255 : Int32))), (.int ((XT.ushr p2 (16 : Int32)) &&& (255 : Int32))), (.int (0 : Int32))]) rfl (by simp) (Or.inr naa997) ?_
  intro T1014 h1015 w1016 A1017 W1018
  have X1019 : Ext h0 h1015 := own_ext_wr X1012 w1016 (by rw [← hs]; exact naa997)
  have A1020 := (A1013).other w1016 (by have := (A988).lt; rw [g998]; exact Nat.ne_of_lt this)
  refine g_dup W1018 at_85 (pc' := 86) rfl rfl ?_
  refine g_iconst W1018 at_86 (pc' := 87) rfl (v := 3) rfl ?_
  refine g_iloadN W1018 at_87 (pc' := 88) rfl rfl ?_
  refine g_bipush W1018 at_88 (pc' := 90) rfl (v := 24) rfl ?_
  refine g_iushr W1018 at_90 (pc' := 91) rfl ?_
  refine g_sipush W1018 at_91 (pc' := 94) rfl (v := 255) rfl ?_
  refine g_iand W1018 at_94 (pc' := 95) rfl ?_
  refine g_i2c W1018 at_95 (pc' := 96) rfl ?_
  rw [i2c_mask]
  refine g_castore W1018 at_96 (pc' := 97) rfl A1017 (i := 3) rfl (by decide) (by first | decide | simp) (y := ((XT.ushr p2 (24 : Int32)) &&& (255 : Int32))) (i2c_mask _) (vs' := [(.int (p2 &&& (255 : Int32))), (.int ((XT.ushr p2 (8 : Int32)) &&& (255 : Int32))), (.int ((XT.ushr p2 (16 : Int32)) &&& (255 : Int32))), (.int ((XT.ushr p2 (24 : Int32)) &&& (255 : Int32)))]) rfl (by simp) (Or.inr naa997) ?_
  intro T1021 h1022 w1023 A1024 W1025
  have X1026 : Ext h0 h1022 := own_ext_wr X1019 w1023 (by rw [← hs]; exact naa997)
  have A1027 := (A1020).other w1023 (by have := (A988).lt; rw [g998]; exact Nat.ne_of_lt this)
  refine g_astore W1025 at_97 (pc' := 99) rfl (ls' := #[.val (.int p1), .val (.int p2), .val (.int p3), .val (.ref a964), .val (.ref a997), .unset, .unset, .unset, .unset, .unset, .unset, .unset, .unset, .unset, .unset]) rfl rfl ?_
  refine g_iloadN W1025 at_99 (pc' := 100) rfl rfl ?_
  refine g_bipush W1025 at_100 (pc' := 102) rfl (v := 7) rfl ?_
  refine g_iand W1025 at_102 (pc' := 103) rfl ?_
  refine g_bipush W1025 at_103 (pc' := 105) rfl (v := 6) rfl ?_
  refine g_irem W1025 at_105 (pc' := 106) rfl (by decide) ?_
  refine g_istore W1025 at_106 (pc' := 108) rfl (ls' := #[.val (.int p1), .val (.int p2), .val (.int p3), .val (.ref a964), .val (.ref a997), .val (.int ((p3 &&& (7 : Int32)) % (6 : Int32))), .unset, .unset, .unset, .unset, .unset, .unset, .unset, .unset, .unset]) rfl ?_
  refine g_iloadN W1025 at_108 (pc' := 109) rfl rfl ?_
  refine g_iconst W1025 at_109 (pc' := 110) rfl (v := 3) rfl ?_
  refine g_iushr W1025 at_110 (pc' := 111) rfl ?_
  refine g_bipush W1025 at_111 (pc' := 113) rfl (v := 7) rfl ?_
  refine g_iand W1025 at_113 (pc' := 114) rfl ?_
  refine g_bipush W1025 at_114 (pc' := 116) rfl (v := 6) rfl ?_
  refine g_irem W1025 at_116 (pc' := 117) rfl (by decide) ?_
  refine g_istore W1025 at_117 (pc' := 119) rfl (ls' := #[.val (.int p1), .val (.int p2), .val (.int p3), .val (.ref a964), .val (.ref a997), .val (.int ((p3 &&& (7 : Int32)) % (6 : Int32))), .val (.int (((XT.ushr p3 (3 : Int32)) &&& (7 : Int32)) % (6 : Int32))), .unset, .unset, .unset, .unset, .unset, .unset, .unset, .unset]) rfl ?_
  obtain ⟨j1, hj1, ej1⟩ := own_m6 p3
  obtain ⟨j2, hj2, ej2⟩ := own_m6 (XT.ushr p3 3)
  rw [ej1, ej2]
  exact s119 T1021 h1022 a964 a997 _ _ (p1 &&& (255 : Int32)) ((XT.ushr p1 (8 : Int32)) &&& (255 : Int32)) ((XT.ushr p1 (16 : Int32)) &&& (255 : Int32)) ((XT.ushr p1 (24 : Int32)) &&& (255 : Int32)) (p2 &&& (255 : Int32)) ((XT.ushr p2 (8 : Int32)) &&& (255 : Int32)) ((XT.ushr p2 (16 : Int32)) &&& (255 : Int32)) ((XT.ushr p2 (24 : Int32)) &&& (255 : Int32)) j1 j2 hj1 hj2 (own_ext_tr O X1026) A1027 A1024 (own_bc (own_b255 _) (own_bc (own_b255 _) (own_bc (own_b255 _) (own_bc (own_b255 _) own_b0)))) (own_bc (own_b255 _) (own_bc (own_b255 _) (own_bc (own_b255 _) (own_bc (own_b255 _) own_b0)))) (W1025.sf (SF' := []) (fun q hq => nomatch hq))
set_option maxRecDepth 65536 in
set_option maxHeartbeats 40000000 in
theorem comes_1 {Post : Tables → Env → Array Value → State → Outcome → State → Prop} (hpost : ∀ tb e args s v u, (limb_1_1.after args s (.returned v) u = true ∧ limb_1_2.after args s (.returned v) u = true ∧ True) → ReturnedEndW s (.returned v) u (Jvm.fieldLocs frame_1_writes args s ++ Jvm.arrayLocs frame_1_arrays args s ++ Jvm.staticLocs frame_1_statics s) 32 2240 → Post tb e args s (.returned v) u) :
    ArmFor flags0 classFile x code maxLocals ret World_1 tables_1 room_1 Calls_1 rest_1 Pre_1 Post := by
  intro l hfl _ _ p e ha hc hk s m args below hf hA hF happ hP
  obtain ⟨hcalls, hrest, hpre⟩ := hP
  obtain ⟨-, -, -, hnamed, -, -, -, hat⟩ := (Spec.applies_iff hf).mp happ
  obtain ⟨hg, hn⟩ := and_e (Cond.before_iff.mp (show (Jvm.Cond.and given_1 narrow_1).before args s = true from hpre))
  obtain ⟨g0, r0⟩ := and_e hg
  obtain ⟨g1, r1⟩ := and_e r0
  obtain ⟨g2, r2⟩ := and_e r1
  obtain ⟨w0, w1, w2, rfl⟩ : ∃ w0 w1 w2 : Value, args = #[w0, w1, w2] := by
    have hs : args.size = 3 := by simpa [Cond.value, given_1] using g0
    obtain ⟨L⟩ := args
    match L, hs with
    | [w0, w1, w2], _ => exact ⟨w0, w1, w2, rfl⟩
  have hw := fun d (hd : d ∈ tables_1) => atoms_spec (ws := Jvm.Cond.code x code maxLocals ret :: tables_1) hat d (List.mem_cons_of_mem _ hd)
  have hfit : Fit s := fun {y c} hc i hi => by
    obtain ⟨ha, rfl⟩ := Array.getElem?_eq_some_iff.mp hc
    have q := List.all_eq_true.mp ((Array.all_eq_true_iff_forall_mem.mp hF) _ (Array.getElem_mem ha)) i (List.mem_range.mpr hi)
    simpa [Array.getElem?_eq_getElem hi] using q
  obtain ⟨hsets, hown0⟩ := atoms_of _ (rest_1_c_eq ▸ (show rest_1_c.before _ s = true from hrest))
  obtain ⟨i0, ei0⟩ := is_v g1
  obtain rfl : w0 = (.int i0) := Option.some.inj ei0
  obtain ⟨i1, ei1⟩ := is_v g2
  obtain rfl : w1 = (.int i1) := Option.some.inj ei1
  obtain ⟨i2, ei2⟩ := is_v r2
  obtain rfl : w2 = (.int i2) := Option.some.inj ei2
  have n5 := not_v (Cond.before_iff.mp (hsets _ (List.mem_of_getElem? (i := 2) rfl)))
  obtain ⟨zc, ezc⟩ := is_v (Cond.before_iff.mp (hsets _ (List.mem_of_getElem? (i := 1) rfl)))
  have SC : Sta s s.heap "java/lang/String" "COMPACT_STRINGS" "Z" (.int zc) := Sta.start ezc (Or.inl (hsets _ (List.mem_of_getElem? (i := 0) rfl)))
  have hzc : ¬ (zc = (0 : Int32)) := gotF (Cond.eq_ints ezc (Term.int_eval (0))) n5
  have hEL : EW s _ consts_1 := (EW.cons (text := own_text 34) (hw _ (List.mem_of_getElem? (i := 34) rfl)) (by decide +kernel) (EW.cons (text := own_text 94) (hw _ (List.mem_of_getElem? (i := 94) rfl)) (by decide +kernel) EW.nil))
  have hCH : CHv s consts_1 s.vm s.heap := CHv.start hEL (fun q hq => hcalls.1 q hq) (hsets _ (List.mem_of_getElem? (i := 2) rfl)) (hw _ (List.mem_of_getElem? (i := 23) rfl)) (hw _ (List.mem_of_getElem? (i := 6) rfl))
  obtain ⟨fm, efm, hfm⟩ := isR_v (Cond.before_iff.mp (hsets _ (List.mem_of_getElem? (i := 8) rfl)))
  have SF1 : Sta s s.heap "jdk/internal/util/Preconditions" "SIOOBE_FORMATTER" "Ljava/util/function/BiFunction;" fm := Sta.start efm (Or.inl (hsets _ (List.mem_of_getElem? (i := 7) rfl)))
  obtain ⟨n, o, h1, h2, h3, v, SFo, rfl, rfl, -, -, hq⟩ := con_law l s _ hw hEL zc SC hzc fm hfm SF1 i0 i1 i2 s.heap (own_ext_rf _) p e ha hc hk s m _ below hf ((Spec.applies_iff_loose hf).mp happ).1 ⟨rfl, State.Warmed39.refl s, rfl, hCH, fun q hq => nomatch hq⟩ trivial
  exact ⟨n, _, h1, h2, h3, hpost _ _ _ _ _ _ ⟨Cond.after_iff.mpr rfl, Cond.after_iff.mpr (eq_i res_at (Term.int_eval (1)) rfl), trivial⟩ hq⟩
theorem main_1_1 : Claimed_1_1 := comes_1 fun _ _ _ _ _ _ h hF => ⟨h.1, hF⟩
theorem main_1_2 : Claimed_1_2 := comes_1 fun _ _ _ _ _ _ h hF => ⟨h.2.1, hF⟩
end Jvm.Pilot.@@N@@
namespace Jvm.Pilot.@@N@@
open Jvm Jvm.ClassFile Sem Op Lib Jvm.Free Jvm.Stand Jvm.Pilot.@@N@@.Jvm.D
/-! MADE BY PROGRAM (witnessworld.py) out of the Statement's table words and the real class files: 26 classes; the members and pool entries that the words name. The judged class is class 1, her method 1. -/
namespace start1
open Jvm.ClassFile
def u (s : String) : CpInfo := .utf8 (stringToUtf16 s)
/-- a pool by its gaps: so many unusable entries, then the entry; so many at the end -/
def gap : Nat → List CpInfo → List CpInfo
  | 0, r => r
  | n + 1, r => .unusable :: gap n r
def poolList (es : List (Nat × CpInfo)) (last : Nat) : List CpInfo := es.foldr (fun e r => gap e.1 (e.2 :: r)) (gap last [])
def pool (es : List (Nat × CpInfo)) (last : Nat) : Array CpInfo := ⟨poolList es last⟩
def fileOf (pool : Array CpInfo) (this : Nat) (attrs : Array Attribute := #[]) (ms : Array MethodInfo := #[]) (fl : Nat := 33) (sup : Nat := 0) (ifs : Array Nat := #[]) (fds : Array FieldInfo := #[]) : ClassFile where
  minorVersion := 0
  majorVersion := 65
  constantPool := pool
  accessFlags := fl
  thisClass := this
  superClass := sup
  interfaces := ifs
  fields := fds
  methods := ms
  attributes := attrs
def plain (name : String) (sup : Option ClassId) : Class where
  name := name
  kind := .ordinary
  loader := none
  accessFlags := 33
  super := sup
  interfaces := #[]
  cf := none
  fields := #[]
  methods := #[]
  instanceTypes := #[]
  staticTypes := #[]
  resolved := #[]
  callSites := []
  init := .initialized
  statics := none
  mirror := none

def pool0 : Array CpInfo := pool [(5, u "<init>"), (0, u "()V"), (1, .class_ 10), (1, u "java/lang/Object")] 113

def k0c0 : Code := { maxStack := 0, maxLocals := 1, code := object_method_1_code, exceptionTable := #[], attributes := #[] }
def k0m0 : Method := { name := "<init>", desc := "()V", sig := { parameters := [], returnType := none }, accessFlags := 1, code := some k0c0 }
/-- java/lang/Object -/
def k0 : Class := { plain "java/lang/Object" none with
  accessFlags := 33
  interfaces := #[]
  cf := some (fileOf pool0 8 #[] #[{ accessFlags := 1, nameIndex := 5, descriptorIndex := 6, attributes := #[] }] 33 0 #[] #[])
  fields := #[]
  methods := #[k0m0]
  instanceTypes := #[]
  staticTypes := #[]
  resolved := Array.replicate 124 none
  statics := none }

def pool1 : Array CpInfo := pool [(2, .class_ 4), (1, u "java/lang/Object"), (0, u "<init>"), (0, u "()V"), (0, .methodref 8 9), (0, .class_ 10), (0, .nameAndType 11 12), (0, u "com/example/skyhold/skyhold/SbiBodyIsTypePinLaw"), (0, u "mk"), (0, u "([CI)Ljava/lang/String;"), (0, .methodref 14 15), (0, .class_ 16), (0, .nameAndType 17 18), (0, u "com/example/skyhold/skyhold/SbiBody"), (0, u "isType"), (0, u "(Ljava/lang/String;Ljava/lang/String;)Z"), (0, .methodref 8 20), (0, .nameAndType 21 22), (0, u "firstSemi"), (0, u "([CI)I"), (0, .methodref 8 24), (0, .nameAndType 25 22), (0, u "start"), (0, .methodref 8 27), (0, .nameAndType 28 29), (0, u "end"), (0, u "([CII)I"), (0, .methodref 8 31), (0, .nameAndType 32 33), (0, u "eqAt"), (0, u "([CI[CII)Z"), (0, .class_ 35), (0, u "java/lang/String"), (0, .methodref 34 37), (0, .nameAndType 5 38), (0, u "([C)V"), (0, .methodref 8 40), (0, .nameAndType 41 42), (0, u "fold"), (0, u "(C)I"), (2, u "law"), (0, u "(III)Z")] 5

def k1m0 : Method := { name := "<init>", desc := "()V", sig := { parameters := [], returnType := none }, accessFlags := 1, code := none }
def k1c1 : Code := { maxStack := 5, maxLocals := 15, code := code, exceptionTable := #[], attributes := #[] }
def k1m1 : Method := { name := "law", desc := "(III)Z", sig := { parameters := [.int, .int, .int], returnType := some .boolean }, accessFlags := 9, code := some k1c1 }
def k1c2 : Code := { maxStack := 7, maxLocals := 2, code := method_3_code, exceptionTable := #[], attributes := #[] }
def k1m2 : Method := { name := "mk", desc := "([CI)Ljava/lang/String;", sig := { parameters := [(.array .char), .int], returnType := some (.object "java/lang/String") }, accessFlags := 10, code := some k1c2 }
def k1c3 : Code := { maxStack := 2, maxLocals := 2, code := method_4_code, exceptionTable := #[], attributes := #[] }
def k1m3 : Method := { name := "firstSemi", desc := "([CI)I", sig := { parameters := [(.array .char), .int], returnType := some .int }, accessFlags := 10, code := some k1c3 }
def k1c4 : Code := { maxStack := 2, maxLocals := 2, code := method_5_code, exceptionTable := #[], attributes := #[] }
def k1m4 : Method := { name := "start", desc := "([CI)I", sig := { parameters := [(.array .char), .int], returnType := some .int }, accessFlags := 10, code := some k1c4 }
def k1c5 : Code := { maxStack := 2, maxLocals := 3, code := method_6_code, exceptionTable := #[], attributes := #[] }
def k1m5 : Method := { name := "end", desc := "([CII)I", sig := { parameters := [(.array .char), .int, .int], returnType := some .int }, accessFlags := 10, code := some k1c5 }
def k1c6 : Code := { maxStack := 2, maxLocals := 1, code := method_7_code, exceptionTable := #[], attributes := #[] }
def k1m6 : Method := { name := "fold", desc := "(C)I", sig := { parameters := [.char], returnType := some .int }, accessFlags := 10, code := some k1c6 }
def k1c7 : Code := { maxStack := 3, maxLocals := 5, code := method_8_code, exceptionTable := #[], attributes := #[] }
def k1m7 : Method := { name := "eqAt", desc := "([CI[CII)Z", sig := { parameters := [(.array .char), .int, (.array .char), .int, .int], returnType := some .boolean }, accessFlags := 10, code := some k1c7 }
/-- com/example/skyhold/skyhold/SbiBodyIsTypePinLaw -/
def k1 : Class := { plain "com/example/skyhold/skyhold/SbiBodyIsTypePinLaw" (some 0) with
  accessFlags := 49
  interfaces := #[]
  cf := some (fileOf pool1 8 #[] #[{ accessFlags := 1, nameIndex := 5, descriptorIndex := 6, attributes := #[] }, { accessFlags := 9, nameIndex := 45, descriptorIndex := 46, attributes := #[] }, { accessFlags := 10, nameIndex := 11, descriptorIndex := 12, attributes := #[] }, { accessFlags := 10, nameIndex := 21, descriptorIndex := 22, attributes := #[] }, { accessFlags := 10, nameIndex := 25, descriptorIndex := 22, attributes := #[] }, { accessFlags := 10, nameIndex := 28, descriptorIndex := 29, attributes := #[] }, { accessFlags := 10, nameIndex := 41, descriptorIndex := 42, attributes := #[] }, { accessFlags := 10, nameIndex := 32, descriptorIndex := 33, attributes := #[] }] 49 2 #[] #[])
  fields := #[]
  methods := #[k1m0, k1m1, k1m2, k1m3, k1m4, k1m5, k1m6, k1m7]
  instanceTypes := #[]
  staticTypes := #[]
  resolved := Array.replicate 52 none
  statics := none }

def pool2 : Array CpInfo := pool [(1, .class_ 2), (0, u "java/io/Serializable"), (0, .class_ 4), (0, u "java/lang/Object")] 2

/-- java/io/Serializable -/
def k2 : Class := { plain "java/io/Serializable" (some 0) with
  accessFlags := 1537
  interfaces := #[]
  cf := some (fileOf pool2 1 #[] #[] 1537 3 #[] #[])
  fields := #[]
  methods := #[]
  instanceTypes := #[]
  staticTypes := #[]
  resolved := Array.replicate 7 none
  statics := none }

def pool3 : Array CpInfo := pool [(1, .class_ 2), (0, u "java/lang/Comparable"), (0, .class_ 4), (0, u "java/lang/Object")] 7

/-- java/lang/Comparable -/
def k3 : Class := { plain "java/lang/Comparable" (some 0) with
  accessFlags := 1537
  interfaces := #[]
  cf := some (fileOf pool3 1 #[] #[] 1537 3 #[] #[])
  fields := #[]
  methods := #[]
  instanceTypes := #[]
  staticTypes := #[]
  resolved := Array.replicate 12 none
  statics := none }

def pool4 : Array CpInfo := pool [(2, .class_ 4), (1, u "java/lang/CharSequence"), (42, .class_ 48), (0, u "java/lang/CharSequence$1CodePointIterator"), (10, .class_ 60), (0, u "java/lang/CharSequence$1CharIterator"), (5, .class_ 67), (0, u "java/lang/Object")] 63

/-- java/lang/CharSequence -/
def k4 : Class := { plain "java/lang/CharSequence" (some 0) with
  accessFlags := 1537
  interfaces := #[]
  cf := some (fileOf pool4 2 #[.nestMembers #[47, 59]] #[] 1537 66 #[] #[])
  fields := #[]
  methods := #[]
  instanceTypes := #[]
  staticTypes := #[]
  resolved := Array.replicate 131 none
  statics := none }

def pool5 : Array CpInfo := pool [(1, .class_ 2), (0, u "java/lang/constant/Constable"), (0, .class_ 4), (0, u "java/lang/Object")] 6

/-- java/lang/constant/Constable -/
def k5 : Class := { plain "java/lang/constant/Constable" (some 0) with
  accessFlags := 1537
  interfaces := #[]
  cf := some (fileOf pool5 1 #[] #[] 1537 3 #[] #[])
  fields := #[]
  methods := #[]
  instanceTypes := #[]
  staticTypes := #[]
  resolved := Array.replicate 11 none
  statics := none }

def pool6 : Array CpInfo := pool [(1, .class_ 2), (0, u "java/lang/constant/ConstantDesc"), (0, .class_ 4), (0, u "java/lang/Object")] 32

/-- java/lang/constant/ConstantDesc -/
def k6 : Class := { plain "java/lang/constant/ConstantDesc" (some 0) with
  accessFlags := 1537
  interfaces := #[]
  cf := some (fileOf pool6 1 #[] #[] 1537 3 #[] #[])
  fields := #[]
  methods := #[]
  instanceTypes := #[]
  staticTypes := #[]
  resolved := Array.replicate 37 none
  statics := none }

def pool7 : Array CpInfo := pool [(1, .methodref 2 3), (0, .class_ 4), (0, .nameAndType 5 6), (0, u "java/lang/Object"), (0, u "<init>"), (0, u "()V"), (0, .string 8), (0, u ""), (0, .fieldref 10 11), (0, .class_ 12), (0, .nameAndType 13 14), (0, u "java/lang/String"), (0, u "value"), (0, u "[B"), (0, .fieldref 10 16), (0, .nameAndType 17 18), (0, u "coder"), (0, u "B"), (2, u "hash"), (0, u "I"), (2, u "hashIsZero"), (0, u "Z"), (0, .methodref 10 28), (0, .nameAndType 5 29), (0, u "([CIILjava/lang/Void;)V"), (8, .fieldref 10 39), (0, .nameAndType 40 26), (0, u "COMPACT_STRINGS"), (1, .class_ 44), (1, u "java/lang/StringUTF16"), (0, u "compress"), (1, .methodref 42 48), (0, .nameAndType 49 50), (0, u "coderFromArrayLen"), (0, u "([BI)B"), (56, .class_ 109), (1, u "java/lang/StringLatin1"), (32, u "()Z"), (34, .methodref 42 178), (0, .nameAndType 45 179), (0, u "([CII)[B"), (31, u "([BB)V"), (122, u "()I"), (0, .methodref 10 336), (0, .nameAndType 17 337), (0, u "()B"), (126, u "()Ljava/lang/String;"), (27, .methodref 10 493), (0, .nameAndType 494 142), (0, u "isLatin1"), (10, .methodref 10 506), (0, .nameAndType 507 334), (0, u "length"), (5, u "checkFromToIndex"), (7, .methodref 10 522), (0, .nameAndType 523 524), (0, u "checkBoundsBeginEnd"), (0, u "(III)V"), (50, .class_ 576), (0, u "java/lang/CharSequence"), (5, .methodref 10 583), (0, .nameAndType 584 585), (0, u "regionMatches"), (0, u "(ZILjava/lang/String;II)Z"), (13, u "CASE_INSENSITIVE_ORDER"), (0, u "Ljava/util/Comparator;"), (12, .methodref 107 614), (0, .nameAndType 615 616), (0, u "regionMatchesCI"), (0, u "([BI[BII)Z"), (16, .methodref 10 634), (0, .nameAndType 635 636), (0, u "indexOf"), (0, u "(II)I"), (0, .methodref 107 638), (0, .nameAndType 635 639), (0, u "([BIII)I"), (43, u "substring"), (0, u "(II)Ljava/lang/String;"), (0, .methodref 107 686), (0, .nameAndType 687 688), (0, u "newString"), (0, u "([BII)Ljava/lang/String;"), (76, u "(I)I"), (93, .methodref 107 860), (0, .nameAndType 861 862), (0, u "trim"), (0, u "([B)Ljava/lang/String;"), (147, u "([C)V"), (42, .fieldref 1054 1055), (0, .class_ 1056), (0, .nameAndType 1057 1058), (0, u "jdk/internal/util/Preconditions"), (0, u "SIOOBE_FORMATTER"), (0, u "Ljava/util/function/BiFunction;"), (3, .methodref 1054 1063), (0, .nameAndType 513 1064), (0, u "(IIILjava/util/function/BiFunction;)I"), (36, u "serialPersistentFields"), (0, u "[Ljava/io/ObjectStreamField;"), (0, .class_ 1104), (0, u "java/lang/String$CaseInsensitiveComparator"), (1, .class_ 1107), (0, u "java/io/Serializable"), (0, .class_ 1109), (0, u "java/lang/Comparable"), (0, .class_ 1111), (0, u "java/lang/constant/Constable"), (0, .class_ 1113), (0, u "java/lang/constant/ConstantDesc"), (2, u "serialVersionUID"), (0, u "J"), (3, u "REPL"), (0, u "C"), (2, u "LATIN1"), (1, u "UTF16"), (128, u "equalsIgnoreCase"), (0, u "(Ljava/lang/String;)Z")] 193

def k7m0 : Method := { name := "<init>", desc := "()V", sig := { parameters := [], returnType := none }, accessFlags := 1, code := none }
def k7c1 : Code := { maxStack := 5, maxLocals := 2, code := jdk_42_method_3_code, exceptionTable := #[], attributes := #[] }
def k7m1 : Method := { name := "<init>", desc := "([C)V", sig := { parameters := [(.array .char)], returnType := none }, accessFlags := 1, code := some k7c1 }
def k7c2 : Code := { maxStack := 2, maxLocals := 1, code := jdk_42_method_54_code, exceptionTable := #[], attributes := #[] }
def k7m2 : Method := { name := "length", desc := "()I", sig := { parameters := [], returnType := some .int }, accessFlags := 1, code := some k7c2 }
def k7c3 : Code := { maxStack := 6, maxLocals := 2, code := jdk_42_method_70_code, exceptionTable := #[], attributes := #[] }
def k7m3 : Method := { name := "equalsIgnoreCase", desc := "(Ljava/lang/String;)Z", sig := { parameters := [(.object "java/lang/String")], returnType := some .boolean }, accessFlags := 1, code := some k7c3 }
def k7c4 : Code := { maxStack := 6, maxLocals := 9, code := jdk_42_method_74_code, exceptionTable := #[], attributes := #[] }
def k7m4 : Method := { name := "regionMatches", desc := "(ZILjava/lang/String;II)Z", sig := { parameters := [.boolean, .int, (.object "java/lang/String"), .int, .int], returnType := some .boolean }, accessFlags := 1, code := some k7c4 }
def k7c5 : Code := { maxStack := 3, maxLocals := 2, code := jdk_42_method_79_code, exceptionTable := #[], attributes := #[] }
def k7m5 : Method := { name := "indexOf", desc := "(I)I", sig := { parameters := [.int], returnType := some .int }, accessFlags := 1, code := some k7c5 }
def k7c6 : Code := { maxStack := 4, maxLocals := 3, code := jdk_42_method_80_code, exceptionTable := #[], attributes := #[] }
def k7m6 : Method := { name := "indexOf", desc := "(II)I", sig := { parameters := [.int, .int], returnType := some .int }, accessFlags := 1, code := some k7c6 }
def k7c7 : Code := { maxStack := 3, maxLocals := 5, code := jdk_42_method_92_code, exceptionTable := #[], attributes := #[] }
def k7m7 : Method := { name := "substring", desc := "(II)Ljava/lang/String;", sig := { parameters := [.int, .int], returnType := some (.object "java/lang/String") }, accessFlags := 1, code := some k7c7 }
def k7c8 : Code := { maxStack := 1, maxLocals := 2, code := jdk_42_method_113_code, exceptionTable := #[], attributes := #[] }
def k7m8 : Method := { name := "trim", desc := "()Ljava/lang/String;", sig := { parameters := [], returnType := some (.object "java/lang/String") }, accessFlags := 1, code := some k7c8 }
def k7c9 : Code := { maxStack := 4, maxLocals := 6, code := jdk_42_method_149_code, exceptionTable := #[], attributes := #[] }
def k7m9 : Method := { name := "<init>", desc := "([CIILjava/lang/Void;)V", sig := { parameters := [(.array .char), .int, .int, (.object "java/lang/Void")], returnType := none }, accessFlags := 2, code := some k7c9 }
def k7c10 : Code := { maxStack := 2, maxLocals := 3, code := jdk_42_method_151_code, exceptionTable := #[], attributes := #[] }
def k7m10 : Method := { name := "<init>", desc := "([BB)V", sig := { parameters := [(.array .byte), .byte], returnType := none }, accessFlags := 0, code := some k7c10 }
def k7c11 : Code := { maxStack := 1, maxLocals := 1, code := jdk_42_method_152_code, exceptionTable := #[], attributes := #[] }
def k7m11 : Method := { name := "coder", desc := "()B", sig := { parameters := [], returnType := some .byte }, accessFlags := 0, code := some k7c11 }
def k7c12 : Code := { maxStack := 1, maxLocals := 1, code := jdk_42_method_154_code, exceptionTable := #[], attributes := #[] }
def k7m12 : Method := { name := "isLatin1", desc := "()Z", sig := { parameters := [], returnType := some .boolean }, accessFlags := 0, code := some k7c12 }
def k7c13 : Code := { maxStack := 4, maxLocals := 3, code := jdk_42_method_158_code, exceptionTable := #[], attributes := #[] }
def k7m13 : Method := { name := "checkBoundsBeginEnd", desc := "(III)V", sig := { parameters := [.int, .int, .int], returnType := none }, accessFlags := 8, code := some k7c13 }
/-- java/lang/String -/
def k7 : Class := { plain "java/lang/String" (some 0) with
  accessFlags := 49
  interfaces := #[2, 3, 4, 5, 6]
  cf := some (fileOf pool7 10 #[.nestMembers #[1103]] #[{ accessFlags := 1, nameIndex := 5, descriptorIndex := 6, attributes := #[] }, { accessFlags := 1, nameIndex := 5, descriptorIndex := 1010, attributes := #[] }, { accessFlags := 1, nameIndex := 507, descriptorIndex := 334, attributes := #[] }, { accessFlags := 1, nameIndex := 1256, descriptorIndex := 1257, attributes := #[] }, { accessFlags := 1, nameIndex := 584, descriptorIndex := 585, attributes := #[] }, { accessFlags := 1, nameIndex := 635, descriptorIndex := 765, attributes := #[] }, { accessFlags := 1, nameIndex := 635, descriptorIndex := 636, attributes := #[] }, { accessFlags := 1, nameIndex := 683, descriptorIndex := 684, attributes := #[] }, { accessFlags := 1, nameIndex := 861, descriptorIndex := 464, attributes := #[] }, { accessFlags := 2, nameIndex := 5, descriptorIndex := 29, attributes := #[] }, { accessFlags := 0, nameIndex := 5, descriptorIndex := 211, attributes := #[] }, { accessFlags := 0, nameIndex := 17, descriptorIndex := 337, attributes := #[] }, { accessFlags := 0, nameIndex := 494, descriptorIndex := 142, attributes := #[] }, { accessFlags := 8, nameIndex := 523, descriptorIndex := 524, attributes := #[] }] 49 2 #[1106, 1108, 575, 1110, 1112] #[{ accessFlags := 18, nameIndex := 13, descriptorIndex := 14, attributes := #[] }, { accessFlags := 18, nameIndex := 17, descriptorIndex := 18, attributes := #[] }, { accessFlags := 2, nameIndex := 21, descriptorIndex := 22, attributes := #[] }, { accessFlags := 2, nameIndex := 25, descriptorIndex := 26, attributes := #[] }, { accessFlags := 26, nameIndex := 1116, descriptorIndex := 1117, attributes := #[] }, { accessFlags := 24, nameIndex := 40, descriptorIndex := 26, attributes := #[] }, { accessFlags := 26, nameIndex := 1101, descriptorIndex := 1102, attributes := #[] }, { accessFlags := 26, nameIndex := 1121, descriptorIndex := 1122, attributes := #[] }, { accessFlags := 25, nameIndex := 599, descriptorIndex := 600, attributes := #[] }, { accessFlags := 24, nameIndex := 1125, descriptorIndex := 18, attributes := #[] }, { accessFlags := 24, nameIndex := 1127, descriptorIndex := 18, attributes := #[] }])
  fields := #[{ name := "value", type := (.array .byte), accessFlags := 18, slot := 0, constantValue := 0 }, { name := "coder", type := .byte, accessFlags := 18, slot := 1, constantValue := 0 }, { name := "hash", type := .int, accessFlags := 2, slot := 2, constantValue := 0 }, { name := "hashIsZero", type := .boolean, accessFlags := 2, slot := 3, constantValue := 0 }, { name := "serialVersionUID", type := .long, accessFlags := 26, slot := 0, constantValue := 0 }, { name := "COMPACT_STRINGS", type := .boolean, accessFlags := 24, slot := 1, constantValue := 0 }, { name := "serialPersistentFields", type := (.array (.object "java/io/ObjectStreamField")), accessFlags := 26, slot := 2, constantValue := 0 }, { name := "REPL", type := .char, accessFlags := 26, slot := 3, constantValue := 0 }, { name := "CASE_INSENSITIVE_ORDER", type := (.object "java/util/Comparator"), accessFlags := 25, slot := 4, constantValue := 0 }, { name := "LATIN1", type := .byte, accessFlags := 24, slot := 5, constantValue := 0 }, { name := "UTF16", type := .byte, accessFlags := 24, slot := 6, constantValue := 0 }]
  methods := #[k7m0, k7m1, k7m2, k7m3, k7m4, k7m5, k7m6, k7m7, k7m8, k7m9, k7m10, k7m11, k7m12, k7m13]
  instanceTypes := #[(.array .byte), .byte, .int, .boolean]
  staticTypes := #[.long, .boolean, (.array (.object "java/io/ObjectStreamField")), .char, (.object "java/util/Comparator"), .byte, .byte]
  resolved := Array.replicate 1451 none
  statics := some 0 }

def pool8 : Array CpInfo := pool [(6, .class_ 8), (1, u "java/lang/Object"), (0, u "<init>"), (0, u "()V"), (1, .class_ 14), (1, u "java/lang/StringUTF16"), (31, u "$assertionsDisabled"), (0, u "Z"), (13, u "HI_BYTE_SHIFT"), (0, u "I"), (2, u "LO_BYTE_SHIFT"), (49, .methodref 12 116), (0, .nameAndType 117 118), (0, u "compress"), (0, u "([CI[BII)I"), (3, u "([CII)[B"), (138, u "coderFromArrayLen"), (0, u "([BI)B"), (106, .class_ 371), (1, u "java/lang/StringUTF16$LinesSpliterator"), (58, u "MAX_LENGTH"), (196, .class_ 628), (0, u "java/lang/StringUTF16$CodePointsSpliterator"), (0, .class_ 630), (0, u "java/lang/StringUTF16$CharsSpliterator")] 4

def k8m0 : Method := { name := "<init>", desc := "()V", sig := { parameters := [], returnType := none }, accessFlags := 0, code := none }
def k8c1 : Code := { maxStack := 2, maxLocals := 2, code := jdk_52_method_15_code, exceptionTable := #[], attributes := #[] }
def k8m1 : Method := { name := "coderFromArrayLen", desc := "([BI)B", sig := { parameters := [(.array .byte), .int], returnType := some .byte }, accessFlags := 8, code := some k8c1 }
def k8c2 : Code := { maxStack := 5, maxLocals := 6, code := jdk_52_method_16_code, exceptionTable := #[], attributes := #[] }
def k8m2 : Method := { name := "compress", desc := "([CII)[B", sig := { parameters := [(.array .char), .int, .int], returnType := some (.array .byte) }, accessFlags := 9, code := some k8c2 }
def k8c3 : Code := { maxStack := 3, maxLocals := 7, code := jdk_52_method_21_code, exceptionTable := #[], attributes := #[] }
def k8m3 : Method := { name := "compress", desc := "([CI[BII)I", sig := { parameters := [(.array .char), .int, (.array .byte), .int, .int], returnType := some .int }, accessFlags := 9, code := some k8c3 }
/-- java/lang/StringUTF16 -/
def k8 : Class := { plain "java/lang/StringUTF16" (some 0) with
  accessFlags := 48
  interfaces := #[]
  cf := some (fileOf pool8 12 #[.nestMembers #[627, 629, 369]] #[{ accessFlags := 0, nameIndex := 9, descriptorIndex := 10, attributes := #[] }, { accessFlags := 8, nameIndex := 261, descriptorIndex := 262, attributes := #[] }, { accessFlags := 9, nameIndex := 117, descriptorIndex := 122, attributes := #[] }, { accessFlags := 9, nameIndex := 117, descriptorIndex := 118, attributes := #[] }] 48 6 #[] #[{ accessFlags := 26, nameIndex := 61, descriptorIndex := 62, attributes := #[] }, { accessFlags := 26, nameIndex := 65, descriptorIndex := 62, attributes := #[] }, { accessFlags := 24, nameIndex := 430, descriptorIndex := 62, attributes := #[] }, { accessFlags := 4120, nameIndex := 46, descriptorIndex := 47, attributes := #[] }])
  fields := #[{ name := "HI_BYTE_SHIFT", type := .int, accessFlags := 26, slot := 0, constantValue := 0 }, { name := "LO_BYTE_SHIFT", type := .int, accessFlags := 26, slot := 1, constantValue := 0 }, { name := "MAX_LENGTH", type := .int, accessFlags := 24, slot := 2, constantValue := 0 }, { name := "$assertionsDisabled", type := .boolean, accessFlags := 4120, slot := 3, constantValue := 0 }]
  methods := #[k8m0, k8m1, k8m2, k8m3]
  instanceTypes := #[]
  staticTypes := #[.int, .int, .int, .boolean]
  resolved := Array.replicate 635 none
  statics := none }

def pool9 : Array CpInfo := pool [(2, .class_ 4), (1, u "java/lang/Object"), (0, u "<init>"), (0, u "()V"), (0, .class_ 8), (0, u "java/lang/Record")] 13

def k9m0 : Method := { name := "<init>", desc := "()V", sig := { parameters := [], returnType := none }, accessFlags := 4, code := none }
/-- java/lang/Record -/
def k9 : Class := { plain "java/lang/Record" (some 0) with
  accessFlags := 1057
  interfaces := #[]
  cf := some (fileOf pool9 7 #[] #[{ accessFlags := 4, nameIndex := 5, descriptorIndex := 6, attributes := #[] }] 1057 2 #[] #[])
  fields := #[]
  methods := #[k9m0]
  instanceTypes := #[]
  staticTypes := #[]
  resolved := Array.replicate 22 none
  statics := none }

def pool10 : Array CpInfo := pool [(2, .class_ 4), (1, u "java/lang/Record"), (3, .class_ 10), (1, u "com/example/skyhold/skyhold/SbiBody"), (0, u "contentType"), (0, u "Ljava/lang/String;"), (2, u "content"), (0, u "[B"), (2, u "isType"), (0, u "(Ljava/lang/String;Ljava/lang/String;)Z"), (0, .methodref 22 23), (0, .class_ 24), (0, .nameAndType 25 26), (0, u "java/lang/String"), (0, u "indexOf"), (0, u "(I)I"), (0, .methodref 22 28), (0, .nameAndType 29 30), (0, u "substring"), (0, u "(II)Ljava/lang/String;"), (0, .methodref 22 32), (0, .nameAndType 33 34), (0, u "trim"), (0, u "()Ljava/lang/String;"), (0, .methodref 22 36), (0, .nameAndType 37 38), (0, u "equalsIgnoreCase"), (0, u "(Ljava/lang/String;)Z")] 42

def k10c0 : Code := { maxStack := 3, maxLocals := 4, code := prog_8_method_3_code, exceptionTable := #[], attributes := #[] }
def k10m0 : Method := { name := "isType", desc := "(Ljava/lang/String;Ljava/lang/String;)Z", sig := { parameters := [(.object "java/lang/String"), (.object "java/lang/String")], returnType := some .boolean }, accessFlags := 8, code := some k10c0 }
/-- com/example/skyhold/skyhold/SbiBody -/
def k10 : Class := { plain "com/example/skyhold/skyhold/SbiBody" (some 9) with
  accessFlags := 48
  interfaces := #[]
  cf := some (fileOf pool10 8 #[] #[{ accessFlags := 8, nameIndex := 19, descriptorIndex := 20, attributes := #[] }] 48 2 #[] #[{ accessFlags := 18, nameIndex := 11, descriptorIndex := 12, attributes := #[] }, { accessFlags := 18, nameIndex := 15, descriptorIndex := 16, attributes := #[] }])
  fields := #[{ name := "contentType", type := (.object "java/lang/String"), accessFlags := 18, slot := 0, constantValue := 0 }, { name := "content", type := (.array .byte), accessFlags := 18, slot := 1, constantValue := 0 }]
  methods := #[k10m0]
  instanceTypes := #[(.object "java/lang/String"), (.array .byte)]
  staticTypes := #[]
  resolved := Array.replicate 81 none
  statics := none }

def pool11 : Array CpInfo := pool [(1, .class_ 2), (0, u "java/lang/String"), (1, .class_ 6), (1, u "java/lang/Object"), (0, u "<init>"), (0, u "()V"), (5, .class_ 16), (1, u "java/lang/StringLatin1"), (21, .methodref 39 40), (0, .class_ 41), (0, .nameAndType 42 43), (0, u "java/lang/Math"), (0, u "min"), (0, u "(II)I"), (23, .class_ 69), (1, u "java/lang/CharacterDataLatin1"), (18, .methodref 14 89), (0, .nameAndType 90 91), (0, u "canEncode"), (0, u "(I)Z"), (0, .methodref 39 93), (0, .nameAndType 94 43), (0, u "max"), (0, .methodref 14 96), (0, .nameAndType 97 98), (0, u "indexOfChar"), (0, u "([BIII)I"), (2, u "indexOf"), (10, .methodref 1 113), (0, .nameAndType 7 114), (0, u "([BB)V"), (6, u "$assertionsDisabled"), (0, u "Z"), (8, .class_ 133), (1, u "java/util/Arrays"), (17, .string 152), (0, u ""), (0, .methodref 67 154), (0, .nameAndType 155 156), (0, u "equalsIgnoreCase"), (0, u "(BB)Z"), (38, .nameAndType 196 197), (0, u "newString"), (0, u "([BII)Ljava/lang/String;"), (12, .methodref 14 195), (10, .class_ 223), (1, u "java/lang/StringLatin1$LinesSpliterator"), (8, .methodref 131 233), (0, .nameAndType 234 235), (0, u "copyOfRange"), (0, u "([BII)[B"), (104, u "regionMatchesCI"), (0, u "([BI[BII)Z"), (24, u "trim"), (0, u "([B)Ljava/lang/String;"), (22, .class_ 391), (0, u "java/lang/StringLatin1$CharsSpliterator")] 3

def k11m0 : Method := { name := "<init>", desc := "()V", sig := { parameters := [], returnType := none }, accessFlags := 0, code := none }
def k11c1 : Code := { maxStack := 2, maxLocals := 1, code := jdk_43_method_4_code, exceptionTable := #[], attributes := #[] }
def k11m1 : Method := { name := "canEncode", desc := "(I)Z", sig := { parameters := [.int], returnType := some .boolean }, accessFlags := 9, code := some k11c1 }
def k11c2 : Code := { maxStack := 4, maxLocals := 4, code := jdk_43_method_22_code, exceptionTable := #[], attributes := #[] }
def k11m2 : Method := { name := "indexOf", desc := "([BIII)I", sig := { parameters := [(.array .byte), .int, .int, .int], returnType := some .int }, accessFlags := 9, code := some k11c2 }
def k11c3 : Code := { maxStack := 2, maxLocals := 6, code := jdk_43_method_23_code, exceptionTable := #[], attributes := #[] }
def k11m3 : Method := { name := "indexOfChar", desc := "([BIII)I", sig := { parameters := [(.array .byte), .int, .int, .int], returnType := some .int }, accessFlags := 10, code := some k11c3 }
def k11c4 : Code := { maxStack := 2, maxLocals := 8, code := jdk_43_method_30_code, exceptionTable := #[], attributes := #[] }
def k11m4 : Method := { name := "regionMatchesCI", desc := "([BI[BII)Z", sig := { parameters := [(.array .byte), .int, (.array .byte), .int, .int], returnType := some .boolean }, accessFlags := 9, code := some k11c4 }
def k11c5 : Code := { maxStack := 4, maxLocals := 3, code := jdk_43_method_36_code, exceptionTable := #[], attributes := #[] }
def k11m5 : Method := { name := "trim", desc := "([B)Ljava/lang/String;", sig := { parameters := [(.array .byte)], returnType := some (.object "java/lang/String") }, accessFlags := 9, code := some k11c5 }
def k11c6 : Code := { maxStack := 6, maxLocals := 3, code := jdk_43_method_47_code, exceptionTable := #[], attributes := #[] }
def k11m6 : Method := { name := "newString", desc := "([BII)Ljava/lang/String;", sig := { parameters := [(.array .byte), .int, .int], returnType := some (.object "java/lang/String") }, accessFlags := 9, code := some k11c6 }
/-- java/lang/StringLatin1 -/
def k11 : Class := { plain "java/lang/StringLatin1" (some 0) with
  accessFlags := 48
  interfaces := #[]
  cf := some (fileOf pool11 14 #[.nestMembers #[390, 221]] #[{ accessFlags := 0, nameIndex := 7, descriptorIndex := 8, attributes := #[] }, { accessFlags := 9, nameIndex := 90, descriptorIndex := 91, attributes := #[] }, { accessFlags := 9, nameIndex := 101, descriptorIndex := 98, attributes := #[] }, { accessFlags := 10, nameIndex := 97, descriptorIndex := 98, attributes := #[] }, { accessFlags := 9, nameIndex := 340, descriptorIndex := 341, attributes := #[] }, { accessFlags := 9, nameIndex := 366, descriptorIndex := 367, attributes := #[] }, { accessFlags := 9, nameIndex := 196, descriptorIndex := 197, attributes := #[] }] 48 4 #[] #[{ accessFlags := 4120, nameIndex := 121, descriptorIndex := 122, attributes := #[] }])
  fields := #[{ name := "$assertionsDisabled", type := .boolean, accessFlags := 4120, slot := 0, constantValue := 0 }]
  methods := #[k11m0, k11m1, k11m2, k11m3, k11m4, k11m5, k11m6]
  instanceTypes := #[]
  staticTypes := #[.boolean]
  resolved := Array.replicate 395 none
  statics := none }

def pool12 : Array CpInfo := pool [(1, .class_ 2), (0, u "java/lang/Math"), (1, .class_ 6), (1, u "java/lang/Object"), (0, u "<init>"), (0, u "()V"), (89, .class_ 100), (1, u "java/lang/Math$RandomNumberGeneratorHolder"), (71, u "negativeZeroFloatBits"), (0, u "J"), (2, u "negativeZeroDoubleBits"), (21, u "max"), (2, u "min"), (43, u "$assertionsDisabled"), (0, u "Z"), (88, u "(II)I"), (2, u "twoToTheDoubleScaleDown"), (0, u "D"), (4, u "twoToTheDoubleScaleUp"), (9, u "E"), (3, u "PI"), (2, u "TAU"), (2, u "DEGREES_TO_RADIANS"), (0, u "RADIANS_TO_DEGREES")] 94

def k12m0 : Method := { name := "<init>", desc := "()V", sig := { parameters := [], returnType := none }, accessFlags := 2, code := none }
def k12c1 : Code := { maxStack := 2, maxLocals := 2, code := jdk_29_method_65_code, exceptionTable := #[], attributes := #[] }
def k12m1 : Method := { name := "max", desc := "(II)I", sig := { parameters := [.int, .int], returnType := some .int }, accessFlags := 9, code := some k12c1 }
def k12c2 : Code := { maxStack := 2, maxLocals := 2, code := jdk_29_method_69_code, exceptionTable := #[], attributes := #[] }
def k12m2 : Method := { name := "min", desc := "(II)I", sig := { parameters := [.int, .int], returnType := some .int }, accessFlags := 9, code := some k12c2 }
/-- java/lang/Math -/
def k12 : Class := { plain "java/lang/Math" (some 0) with
  accessFlags := 49
  interfaces := #[]
  cf := some (fileOf pool12 1 #[.nestMembers #[98]] #[{ accessFlags := 2, nameIndex := 7, descriptorIndex := 8, attributes := #[] }, { accessFlags := 9, nameIndex := 198, descriptorIndex := 335, attributes := #[] }, { accessFlags := 9, nameIndex := 201, descriptorIndex := 335, attributes := #[] }] 49 4 #[] #[{ accessFlags := 25, nameIndex := 354, descriptorIndex := 339, attributes := #[] }, { accessFlags := 25, nameIndex := 358, descriptorIndex := 339, attributes := #[] }, { accessFlags := 25, nameIndex := 361, descriptorIndex := 339, attributes := #[] }, { accessFlags := 26, nameIndex := 364, descriptorIndex := 339, attributes := #[] }, { accessFlags := 26, nameIndex := 365, descriptorIndex := 339, attributes := #[] }, { accessFlags := 26, nameIndex := 172, descriptorIndex := 173, attributes := #[] }, { accessFlags := 26, nameIndex := 176, descriptorIndex := 173, attributes := #[] }, { accessFlags := 8, nameIndex := 344, descriptorIndex := 339, attributes := #[] }, { accessFlags := 8, nameIndex := 338, descriptorIndex := 339, attributes := #[] }, { accessFlags := 4120, nameIndex := 245, descriptorIndex := 246, attributes := #[] }])
  fields := #[{ name := "E", type := .double, accessFlags := 25, slot := 0, constantValue := 0 }, { name := "PI", type := .double, accessFlags := 25, slot := 1, constantValue := 0 }, { name := "TAU", type := .double, accessFlags := 25, slot := 2, constantValue := 0 }, { name := "DEGREES_TO_RADIANS", type := .double, accessFlags := 26, slot := 3, constantValue := 0 }, { name := "RADIANS_TO_DEGREES", type := .double, accessFlags := 26, slot := 4, constantValue := 0 }, { name := "negativeZeroFloatBits", type := .long, accessFlags := 26, slot := 5, constantValue := 0 }, { name := "negativeZeroDoubleBits", type := .long, accessFlags := 26, slot := 6, constantValue := 0 }, { name := "twoToTheDoubleScaleUp", type := .double, accessFlags := 8, slot := 7, constantValue := 0 }, { name := "twoToTheDoubleScaleDown", type := .double, accessFlags := 8, slot := 8, constantValue := 0 }, { name := "$assertionsDisabled", type := .boolean, accessFlags := 4120, slot := 9, constantValue := 0 }]
  methods := #[k12m0, k12m1, k12m2]
  instanceTypes := #[]
  staticTypes := #[.double, .double, .double, .double, .double, .long, .long, .double, .double, .boolean]
  resolved := Array.replicate 460 none
  statics := none }

def pool13 : Array CpInfo := pool [(2, .class_ 4), (1, u "java/lang/Object"), (0, u "<init>"), (0, u "()V"), (1, .class_ 10), (1, u "java/lang/CharacterData")] 75

def k13m0 : Method := { name := "<init>", desc := "()V", sig := { parameters := [], returnType := none }, accessFlags := 0, code := none }
/-- java/lang/CharacterData -/
def k13 : Class := { plain "java/lang/CharacterData" (some 0) with
  accessFlags := 1056
  interfaces := #[]
  cf := some (fileOf pool13 8 #[] #[{ accessFlags := 0, nameIndex := 5, descriptorIndex := 6, attributes := #[] }] 1056 2 #[] #[])
  fields := #[]
  methods := #[k13m0]
  instanceTypes := #[]
  staticTypes := #[]
  resolved := Array.replicate 86 none
  statics := none }

def pool14 : Array CpInfo := pool [(2, .class_ 4), (1, u "java/lang/CharacterDataLatin1"), (0, u "A"), (0, u "[I"), (2, u "B"), (0, u "[C"), (16, u "DIGITS"), (0, u "[B"), (8, u "sharpsMap"), (1, .class_ 41), (1, u "java/lang/CharacterData"), (0, u "<init>"), (0, u "()V"), (3, u "instance"), (0, u "Ljava/lang/CharacterDataLatin1;"), (66, u "equalsIgnoreCase"), (0, u "(BB)Z")] 24

def k14c0 : Code := { maxStack := 3, maxLocals := 3, code := jdk_116_method_22_code, exceptionTable := #[], attributes := #[] }
def k14m0 : Method := { name := "equalsIgnoreCase", desc := "(BB)Z", sig := { parameters := [.byte, .byte], returnType := some .boolean }, accessFlags := 8, code := some k14c0 }
def k14m1 : Method := { name := "<init>", desc := "()V", sig := { parameters := [], returnType := none }, accessFlags := 2, code := none }
/-- java/lang/CharacterDataLatin1 -/
def k14 : Class := { plain "java/lang/CharacterDataLatin1" (some 13) with
  accessFlags := 32
  interfaces := #[]
  cf := some (fileOf pool14 2 #[] #[{ accessFlags := 8, nameIndex := 115, descriptorIndex := 116, attributes := #[] }, { accessFlags := 2, nameIndex := 42, descriptorIndex := 43, attributes := #[] }] 32 39 #[] #[{ accessFlags := 26, nameIndex := 27, descriptorIndex := 28, attributes := #[] }, { accessFlags := 8, nameIndex := 37, descriptorIndex := 10, attributes := #[] }, { accessFlags := 24, nameIndex := 47, descriptorIndex := 48, attributes := #[] }, { accessFlags := 24, nameIndex := 5, descriptorIndex := 6, attributes := #[] }, { accessFlags := 24, nameIndex := 9, descriptorIndex := 10, attributes := #[] }])
  fields := #[{ name := "DIGITS", type := (.array .byte), accessFlags := 26, slot := 0, constantValue := 0 }, { name := "sharpsMap", type := (.array .char), accessFlags := 8, slot := 1, constantValue := 0 }, { name := "instance", type := (.object "java/lang/CharacterDataLatin1"), accessFlags := 24, slot := 2, constantValue := 0 }, { name := "A", type := (.array .int), accessFlags := 24, slot := 3, constantValue := 0 }, { name := "B", type := (.array .char), accessFlags := 24, slot := 4, constantValue := 0 }]
  methods := #[k14m0, k14m1]
  instanceTypes := #[]
  staticTypes := #[(.array .byte), (.array .char), (.object "java/lang/CharacterDataLatin1"), (.array .int), (.array .char)]
  resolved := Array.replicate 141 none
  statics := none }

def pool15 : Array CpInfo := pool [(2, .class_ 4), (1, u "java/lang/Object"), (0, u "<init>"), (0, u "()V"), (7, .class_ 16), (1, u "java/util/Arrays"), (57, .class_ 76), (1, u "java/util/Arrays$NaturalOrder"), (36, .class_ 115), (1, u "java/util/Arrays$LegacyMergeSort"), (1, u "Z"), (21, u "copyOfRange"), (10, .methodref 151 152), (0, .class_ 153), (0, .nameAndType 154 155), (0, u "java/lang/System"), (0, u "arraycopy"), (0, u "(Ljava/lang/Object;ILjava/lang/Object;II)V"), (148, .methodref 305 306), (0, .class_ 307), (0, .nameAndType 308 309), (0, u "java/lang/Math"), (0, u "min"), (0, u "(II)I"), (29, .methodref 14 340), (0, .nameAndType 341 342), (0, u "copyOfRangeByte"), (0, u "([BII)[B"), (0, .methodref 14 344), (0, .nameAndType 345 346), (0, u "checkLength"), (0, u "(II)V"), (28, .class_ 376), (0, u "java/util/Arrays$ArrayList"), (68, u "$assertionsDisabled"), (269, u "MIN_ARRAY_SORT_GRAN"), (0, u "I"), (2, u "INSERTIONSORT_THRESHOLD"), (255, .class_ 976), (0, u "java/util/Arrays$ArrayItr")] 52

def k15m0 : Method := { name := "<init>", desc := "()V", sig := { parameters := [], returnType := none }, accessFlags := 2, code := none }
def k15c1 : Code := { maxStack := 4, maxLocals := 2, code := jdk_65_method_131_code, exceptionTable := #[], attributes := #[] }
def k15m1 : Method := { name := "checkLength", desc := "(II)V", sig := { parameters := [.int, .int], returnType := none }, accessFlags := 10, code := some k15c1 }
def k15c2 : Code := { maxStack := 3, maxLocals := 3, code := jdk_65_method_132_code, exceptionTable := #[], attributes := #[] }
def k15m2 : Method := { name := "copyOfRange", desc := "([BII)[B", sig := { parameters := [(.array .byte), .int, .int], returnType := some (.array .byte) }, accessFlags := 9, code := some k15c2 }
def k15c3 : Code := { maxStack := 6, maxLocals := 5, code := jdk_65_method_133_code, exceptionTable := #[], attributes := #[] }
def k15m3 : Method := { name := "copyOfRangeByte", desc := "([BII)[B", sig := { parameters := [(.array .byte), .int, .int], returnType := some (.array .byte) }, accessFlags := 10, code := some k15c3 }
/-- java/util/Arrays -/
def k15 : Class := { plain "java/util/Arrays" (some 0) with
  accessFlags := 49
  interfaces := #[]
  cf := some (fileOf pool15 14 #[.nestMembers #[975, 375, 113, 74]] #[{ accessFlags := 2, nameIndex := 5, descriptorIndex := 6, attributes := #[] }, { accessFlags := 10, nameIndex := 345, descriptorIndex := 346, attributes := #[] }, { accessFlags := 9, nameIndex := 139, descriptorIndex := 342, attributes := #[] }, { accessFlags := 10, nameIndex := 341, descriptorIndex := 342, attributes := #[] }] 49 2 #[] #[{ accessFlags := 26, nameIndex := 715, descriptorIndex := 716, attributes := #[] }, { accessFlags := 26, nameIndex := 719, descriptorIndex := 716, attributes := #[] }, { accessFlags := 4120, nameIndex := 445, descriptorIndex := 117, attributes := #[] }])
  fields := #[{ name := "MIN_ARRAY_SORT_GRAN", type := .int, accessFlags := 26, slot := 0, constantValue := 0 }, { name := "INSERTIONSORT_THRESHOLD", type := .int, accessFlags := 26, slot := 1, constantValue := 0 }, { name := "$assertionsDisabled", type := .boolean, accessFlags := 4120, slot := 2, constantValue := 0 }]
  methods := #[k15m0, k15m1, k15m2, k15m3]
  instanceTypes := #[]
  staticTypes := #[.int, .int, .boolean]
  resolved := Array.replicate 1029 none
  statics := none }

def pool16 : Array CpInfo := pool [(2, .class_ 4), (1, u "java/lang/Object"), (0, u "<init>"), (0, u "()V"), (1, .class_ 10), (1, u "java/lang/System"), (0, u "allowSecurityManager"), (0, u "I"), (16, u "cons"), (0, u "Ljava/io/Console;"), (77, .class_ 110), (1, u "java/lang/System$CallersHolder"), (43, u "initialErrStream"), (0, u "Ljava/io/PrintStream;"), (19, u "security"), (0, u "Ljava/lang/SecurityManager;"), (31, .class_ 209), (0, u "java/lang/System$1"), (7, u "props"), (0, u "Ljava/util/Properties;"), (2, u "lineSeparator"), (0, u "Ljava/lang/String;"), (96, .class_ 321), (1, u "java/lang/System$LoggerFinder"), (5, .class_ 328), (0, u "java/lang/System$Logger"), (67, u "err"), (2, u "out"), (91, u "notSupportedJnuEncoding"), (15, u "in"), (17, u "initialIn"), (0, u "Ljava/io/InputStream;"), (35, u "bootLayer"), (0, u "Ljava/lang/ModuleLayer;"), (99, .class_ 664), (0, u "java/lang/System$2"), (9, u "NEVER"), (2, u "MAYBE"), (49, u "arraycopy"), (0, u "(Ljava/lang/Object;ILjava/lang/Object;II)V"), (72, .class_ 802), (0, u "java/lang/System$Logger$Level")] 31

def k16m0 : Method := { name := "<init>", desc := "()V", sig := { parameters := [], returnType := none }, accessFlags := 2, code := none }
def k16m1 : Method := { name := "arraycopy", desc := "(Ljava/lang/Object;ILjava/lang/Object;II)V", sig := { parameters := [(.object "java/lang/Object"), .int, (.object "java/lang/Object"), .int, .int], returnType := none }, accessFlags := 265, code := none }
/-- java/lang/System -/
def k16 : Class := { plain "java/lang/System" (some 0) with
  accessFlags := 49
  interfaces := #[]
  cf := some (fileOf pool16 8 #[.nestMembers #[319, 327, 801, 108, 663, 208]] #[{ accessFlags := 2, nameIndex := 5, descriptorIndex := 6, attributes := #[] }, { accessFlags := 265, nameIndex := 727, descriptorIndex := 728, attributes := #[] }] 49 2 #[] #[{ accessFlags := 25, nameIndex := 507, descriptorIndex := 526, attributes := #[] }, { accessFlags := 25, nameIndex := 399, descriptorIndex := 155, attributes := #[] }, { accessFlags := 25, nameIndex := 396, descriptorIndex := 155, attributes := #[] }, { accessFlags := 10, nameIndex := 525, descriptorIndex := 526, attributes := #[] }, { accessFlags := 26, nameIndex := 674, descriptorIndex := 12, attributes := #[] }, { accessFlags := 26, nameIndex := 677, descriptorIndex := 12, attributes := #[] }, { accessFlags := 10, nameIndex := 11, descriptorIndex := 12, attributes := #[] }, { accessFlags := 74, nameIndex := 175, descriptorIndex := 176, attributes := #[] }, { accessFlags := 10, nameIndex := 491, descriptorIndex := 222, attributes := #[] }, { accessFlags := 74, nameIndex := 29, descriptorIndex := 30, attributes := #[] }, { accessFlags := 74, nameIndex := 154, descriptorIndex := 155, attributes := #[] }, { accessFlags := 10, nameIndex := 217, descriptorIndex := 218, attributes := #[] }, { accessFlags := 10, nameIndex := 221, descriptorIndex := 222, attributes := #[] }, { accessFlags := 8, nameIndex := 562, descriptorIndex := 563, attributes := #[] }])
  fields := #[{ name := "in", type := (.object "java/io/InputStream"), accessFlags := 25, slot := 0, constantValue := 0 }, { name := "out", type := (.object "java/io/PrintStream"), accessFlags := 25, slot := 1, constantValue := 0 }, { name := "err", type := (.object "java/io/PrintStream"), accessFlags := 25, slot := 2, constantValue := 0 }, { name := "initialIn", type := (.object "java/io/InputStream"), accessFlags := 10, slot := 3, constantValue := 0 }, { name := "NEVER", type := .int, accessFlags := 26, slot := 4, constantValue := 0 }, { name := "MAYBE", type := .int, accessFlags := 26, slot := 5, constantValue := 0 }, { name := "allowSecurityManager", type := .int, accessFlags := 10, slot := 6, constantValue := 0 }, { name := "security", type := (.object "java/lang/SecurityManager"), accessFlags := 74, slot := 7, constantValue := 0 }, { name := "notSupportedJnuEncoding", type := (.object "java/lang/String"), accessFlags := 10, slot := 8, constantValue := 0 }, { name := "cons", type := (.object "java/io/Console"), accessFlags := 74, slot := 9, constantValue := 0 }, { name := "initialErrStream", type := (.object "java/io/PrintStream"), accessFlags := 74, slot := 10, constantValue := 0 }, { name := "props", type := (.object "java/util/Properties"), accessFlags := 10, slot := 11, constantValue := 0 }, { name := "lineSeparator", type := (.object "java/lang/String"), accessFlags := 10, slot := 12, constantValue := 0 }, { name := "bootLayer", type := (.object "java/lang/ModuleLayer"), accessFlags := 8, slot := 13, constantValue := 0 }]
  methods := #[k16m0, k16m1]
  instanceTypes := #[]
  staticTypes := #[(.object "java/io/InputStream"), (.object "java/io/PrintStream"), (.object "java/io/PrintStream"), (.object "java/io/InputStream"), .int, .int, .int, (.object "java/lang/SecurityManager"), (.object "java/lang/String"), (.object "java/io/Console"), (.object "java/io/PrintStream"), (.object "java/util/Properties"), (.object "java/lang/String"), (.object "java/lang/ModuleLayer")]
  resolved := Array.replicate 834 none
  statics := none }

def pool17 : Array CpInfo := pool [(2, .class_ 4), (1, u "java/lang/Object"), (0, u "<init>"), (0, u "()V"), (17, .class_ 26), (1, u "jdk/internal/util/Preconditions"), (20, u "checkFromToIndex"), (7, .class_ 56), (0, u "jdk/internal/util/Preconditions$4"), (57, .class_ 115), (0, u "jdk/internal/util/Preconditions$1"), (7, u "SIOOBE_FORMATTER"), (0, u "Ljava/util/function/BiFunction;"), (0, .class_ 126), (0, u "jdk/internal/util/Preconditions$2"), (3, u "AIOOBE_FORMATTER"), (0, .class_ 132), (0, u "jdk/internal/util/Preconditions$3"), (3, u "IOOBE_FORMATTER"), (46, u "(IIILjava/util/function/BiFunction;)I")] 10

def k17m0 : Method := { name := "<init>", desc := "()V", sig := { parameters := [], returnType := none }, accessFlags := 1, code := none }
def k17c1 : Code := { maxStack := 4, maxLocals := 4, code := jdk_41_method_12_code, exceptionTable := #[], attributes := #[] }
def k17m1 : Method := { name := "checkFromToIndex", desc := "(IIILjava/util/function/BiFunction;)I", sig := { parameters := [.int, .int, .int, (.object "java/util/function/BiFunction")], returnType := some .int }, accessFlags := 9, code := some k17c1 }
/-- jdk/internal/util/Preconditions -/
def k17 : Class := { plain "jdk/internal/util/Preconditions" (some 0) with
  accessFlags := 33
  interfaces := #[]
  cf := some (fileOf pool17 24 #[.nestMembers #[55, 131, 125, 114]] #[{ accessFlags := 1, nameIndex := 5, descriptorIndex := 6, attributes := #[] }, { accessFlags := 9, nameIndex := 47, descriptorIndex := 183, attributes := #[] }] 33 2 #[] #[{ accessFlags := 25, nameIndex := 123, descriptorIndex := 124, attributes := #[] }, { accessFlags := 25, nameIndex := 130, descriptorIndex := 124, attributes := #[] }, { accessFlags := 25, nameIndex := 136, descriptorIndex := 124, attributes := #[] }])
  fields := #[{ name := "SIOOBE_FORMATTER", type := (.object "java/util/function/BiFunction"), accessFlags := 25, slot := 0, constantValue := 0 }, { name := "AIOOBE_FORMATTER", type := (.object "java/util/function/BiFunction"), accessFlags := 25, slot := 1, constantValue := 0 }, { name := "IOOBE_FORMATTER", type := (.object "java/util/function/BiFunction"), accessFlags := 25, slot := 2, constantValue := 0 }]
  methods := #[k17m0, k17m1]
  instanceTypes := #[]
  staticTypes := #[(.object "java/util/function/BiFunction"), (.object "java/util/function/BiFunction"), (.object "java/util/function/BiFunction")]
  resolved := Array.replicate 194 none
  statics := some 1 }

def pool18 : Array CpInfo := pool [(9, u "<init>"), (6, .class_ 18), (1, u "java/lang/Object"), (0, u "()V"), (1, .class_ 23), (1, u "jdk/internal/util/ArraysSupport"), (0, u "LOG2_ARRAY_LONG_INDEX_SCALE"), (0, u "I"), (2, u "U"), (0, u "Ljdk/internal/misc/Unsafe;"), (8, u "BIG_ENDIAN"), (0, u "Z"), (8, u "LOG2_BYTE_BIT_SIZE"), (4, u "LOG2_ARRAY_INT_INDEX_SCALE"), (54, u "JLA"), (0, u "Ljdk/internal/access/JavaLangAccess;"), (11, u "LOG2_ARRAY_BOOLEAN_INDEX_SCALE"), (9, u "LOG2_ARRAY_BYTE_INDEX_SCALE"), (5, u "LOG2_ARRAY_CHAR_INDEX_SCALE"), (5, u "LOG2_ARRAY_SHORT_INDEX_SCALE"), (18, u "LOG2_ARRAY_FLOAT_INDEX_SCALE"), (24, u "LOG2_ARRAY_DOUBLE_INDEX_SCALE"), (89, u "T_BOOLEAN"), (2, u "T_CHAR"), (1, u "T_FLOAT"), (1, u "T_DOUBLE"), (1, u "T_BYTE"), (1, u "T_SHORT"), (1, u "T_INT"), (1, u "T_LONG"), (1, u "SOFT_MAX_ARRAY_LENGTH")] 83

def k18m0 : Method := { name := "<init>", desc := "()V", sig := { parameters := [], returnType := none }, accessFlags := 2, code := none }
/-- jdk/internal/util/ArraysSupport -/
def k18 : Class := { plain "jdk/internal/util/ArraysSupport" (some 0) with
  accessFlags := 33
  interfaces := #[]
  cf := some (fileOf pool18 21 #[] #[{ accessFlags := 2, nameIndex := 9, descriptorIndex := 19, attributes := #[] }] 33 16 #[] #[{ accessFlags := 24, nameIndex := 28, descriptorIndex := 29, attributes := #[] }, { accessFlags := 26, nameIndex := 38, descriptorIndex := 39, attributes := #[] }, { accessFlags := 25, nameIndex := 121, descriptorIndex := 25, attributes := #[] }, { accessFlags := 25, nameIndex := 131, descriptorIndex := 25, attributes := #[] }, { accessFlags := 25, nameIndex := 137, descriptorIndex := 25, attributes := #[] }, { accessFlags := 25, nameIndex := 143, descriptorIndex := 25, attributes := #[] }, { accessFlags := 25, nameIndex := 53, descriptorIndex := 25, attributes := #[] }, { accessFlags := 25, nameIndex := 24, descriptorIndex := 25, attributes := #[] }, { accessFlags := 25, nameIndex := 162, descriptorIndex := 25, attributes := #[] }, { accessFlags := 25, nameIndex := 187, descriptorIndex := 25, attributes := #[] }, { accessFlags := 26, nameIndex := 48, descriptorIndex := 25, attributes := #[] }, { accessFlags := 25, nameIndex := 277, descriptorIndex := 25, attributes := #[] }, { accessFlags := 25, nameIndex := 280, descriptorIndex := 25, attributes := #[] }, { accessFlags := 25, nameIndex := 282, descriptorIndex := 25, attributes := #[] }, { accessFlags := 25, nameIndex := 284, descriptorIndex := 25, attributes := #[] }, { accessFlags := 25, nameIndex := 286, descriptorIndex := 25, attributes := #[] }, { accessFlags := 25, nameIndex := 288, descriptorIndex := 25, attributes := #[] }, { accessFlags := 25, nameIndex := 290, descriptorIndex := 25, attributes := #[] }, { accessFlags := 25, nameIndex := 292, descriptorIndex := 25, attributes := #[] }, { accessFlags := 26, nameIndex := 108, descriptorIndex := 109, attributes := #[] }, { accessFlags := 25, nameIndex := 294, descriptorIndex := 25, attributes := #[] }])
  fields := #[{ name := "U", type := (.object "jdk/internal/misc/Unsafe"), accessFlags := 24, slot := 0, constantValue := 0 }, { name := "BIG_ENDIAN", type := .boolean, accessFlags := 26, slot := 1, constantValue := 0 }, { name := "LOG2_ARRAY_BOOLEAN_INDEX_SCALE", type := .int, accessFlags := 25, slot := 2, constantValue := 0 }, { name := "LOG2_ARRAY_BYTE_INDEX_SCALE", type := .int, accessFlags := 25, slot := 3, constantValue := 0 }, { name := "LOG2_ARRAY_CHAR_INDEX_SCALE", type := .int, accessFlags := 25, slot := 4, constantValue := 0 }, { name := "LOG2_ARRAY_SHORT_INDEX_SCALE", type := .int, accessFlags := 25, slot := 5, constantValue := 0 }, { name := "LOG2_ARRAY_INT_INDEX_SCALE", type := .int, accessFlags := 25, slot := 6, constantValue := 0 }, { name := "LOG2_ARRAY_LONG_INDEX_SCALE", type := .int, accessFlags := 25, slot := 7, constantValue := 0 }, { name := "LOG2_ARRAY_FLOAT_INDEX_SCALE", type := .int, accessFlags := 25, slot := 8, constantValue := 0 }, { name := "LOG2_ARRAY_DOUBLE_INDEX_SCALE", type := .int, accessFlags := 25, slot := 9, constantValue := 0 }, { name := "LOG2_BYTE_BIT_SIZE", type := .int, accessFlags := 26, slot := 10, constantValue := 0 }, { name := "T_BOOLEAN", type := .int, accessFlags := 25, slot := 11, constantValue := 0 }, { name := "T_CHAR", type := .int, accessFlags := 25, slot := 12, constantValue := 0 }, { name := "T_FLOAT", type := .int, accessFlags := 25, slot := 13, constantValue := 0 }, { name := "T_DOUBLE", type := .int, accessFlags := 25, slot := 14, constantValue := 0 }, { name := "T_BYTE", type := .int, accessFlags := 25, slot := 15, constantValue := 0 }, { name := "T_SHORT", type := .int, accessFlags := 25, slot := 16, constantValue := 0 }, { name := "T_INT", type := .int, accessFlags := 25, slot := 17, constantValue := 0 }, { name := "T_LONG", type := .int, accessFlags := 25, slot := 18, constantValue := 0 }, { name := "JLA", type := (.object "jdk/internal/access/JavaLangAccess"), accessFlags := 26, slot := 19, constantValue := 0 }, { name := "SOFT_MAX_ARRAY_LENGTH", type := .int, accessFlags := 25, slot := 20, constantValue := 0 }]
  methods := #[k18m0]
  instanceTypes := #[]
  staticTypes := #[(.object "jdk/internal/misc/Unsafe"), .boolean, .int, .int, .int, .int, .int, .int, .int, .int, .int, .int, .int, .int, .int, .int, .int, .int, .int, (.object "jdk/internal/access/JavaLangAccess"), .int]
  resolved := Array.replicate 378 none
  statics := none }

def pool19 : Array CpInfo := pool [(1, u "java/lang/Cloneable"), (0, .class_ 1), (0, u "java/lang/Object"), (0, .class_ 3)] 3

/-- java/lang/Cloneable -/
def k19 : Class := { plain "java/lang/Cloneable" (some 0) with
  accessFlags := 1537
  interfaces := #[]
  cf := some (fileOf pool19 2 #[] #[] 1537 4 #[] #[])
  fields := #[]
  methods := #[]
  instanceTypes := #[]
  staticTypes := #[]
  resolved := Array.replicate 8 none
  statics := none }

/-- the primitive byte -/
def k20 : Class := { plain "byte" none with kind := .primitive 'B', accessFlags := 0x411 }
/-- [B -/
def k21 : Class := { plain "[B" (some 0) with kind := .array 20 .byte, interfaces := #[19, 2], accessFlags := 1041 }

/-- the primitive char -/
def k22 : Class := { plain "char" none with kind := .primitive 'C', accessFlags := 0x411 }
/-- [C -/
def k23 : Class := { plain "[C" (some 0) with kind := .array 22 .char, interfaces := #[19, 2], accessFlags := 1041 }

/-- the primitive int -/
def k24 : Class := { plain "int" none with kind := .primitive 'I', accessFlags := 0x411 }
/-- [I -/
def k25 : Class := { plain "[I" (some 0) with kind := .array 24 .int, interfaces := #[19, 2], accessFlags := 1041 }

def heap : Heap := #[{ cls := 7, slots := #[.long 0, .int 1, .null, .int 0, .null, .int 0, .int 0], vm := .statics 7 },
  { cls := 17, slots := #[.null, .null, .null], vm := .statics 17 }]
def classes : Array Class := #[k0, k1, k2, k3, k4, k5, k6, k7, k8, k9, k10, k11, k12, k13, k14, k15, k16, k17, k18, k19, k20, k21, k22, k23, k24, k25]
def interned : List (Array UInt16 × Addr) := []
def slotsUsed : Nat := 10
def theMethod : MethodId := ⟨1, 1⟩
def args0 : Array Value := #[.int 5, .int 5, .int 5]
def aboutOver (below : List Frame) : State where
  vm := { classes := classes, interned := interned.toArray }
  heap := heap
  slotsUsed := slotsUsed
  threads := #[{ frames := .invoking theMethod args0 :: below }]
def below0 : List Frame := [.native { method := ⟨0, 0⟩, args := #[] }]
def about1 : State := aboutOver below0
def p0 : Program := .bare "" "" ""
def e0 : Env := launch0.env 0 0 0
theorem w_frames : about1.frames = Frame.invoking theMethod args0 :: below0 := rfl
set_option maxRecDepth 65536 in
theorem w_args : argsFit about1.vm theMethod args0 = true := by decide +kernel
set_option maxRecDepth 65536 in
theorem w_heap : heapFits about1 = true := by decide +kernel
set_option maxRecDepth 65536 in
theorem w_runnable : about1.curStatus? = some .runnable := by decide +kernel
set_option maxRecDepth 65536 in
theorem w_alone : about1.alone = true := by decide +kernel
set_option maxRecDepth 65536 in
theorem w_named : about1.methodNamed? x = some theMethod := by decide +kernel
set_option maxRecDepth 65536 in
theorem w_hears : about1.hears theMethod below0 = true := by decide +kernel
set_option maxRecDepth 65536 in
theorem w_ripe : about1.ripe theMethod args0 below0 = true := by decide +kernel
theorem w_running : about1.status = .running := rfl
set_option maxRecDepth 65536 in
theorem w_room : about1.hasRoom e0.platform room_1 = true :=
  launch0.hasRoom_least _ room_1 (by decide +kernel) (by decide +kernel) (by decide +kernel) (by decide +kernel) (by decide +kernel) (by decide +kernel)
theorem allAtoms_all (ts : List Jvm.Cond) (a : Array Jvm.Value) (st : Jvm.State) : (allAtoms ts).before a st = ts.all (fun c => c.before a st) := by
  induction ts with
  | nil => rfl
  | cons c t ih =>
    show (Jvm.Cond.and c (allAtoms t)).before a st = _
    rw [Jvm.Cond.before_and, ih, List.all_cons]
def words1 : List Jvm.Cond := Jvm.Cond.code x code maxLocals ret :: tables_1
/-- a 'code' word, met by the world's own term for the bytes: nothing is compared byte by byte -/
theorem code_word {y : MethodName} {bytes : ByteArray} {mx : Nat} {rt : Option FieldType} {a : Array Value} {s : State} {m : MethodId} {meth : Method} {c : Code} (h1 : s.methodNamed? y = some m) (h2 : s.vm.method? m = some meth) (h3 : meth.code = some c) (h4 : c.code = bytes)
    (h5 : (c.maxLocals == mx && c.exceptionTable.isEmpty && decide (c.maxStack ≤ mostOperands) && decide (meth.sig.returnType = rt) && !meth.locks && decide (parseMethodDescriptor y.desc = some meth.sig)) = true) : (Jvm.Cond.code y bytes mx rt).before a s = true := by
  simp only [Bool.and_eq_true, beq_iff_eq, Bool.not_eq_true', decide_eq_true_eq] at h5
  obtain ⟨⟨⟨⟨⟨g1, g2⟩, g3⟩, g4⟩, g5⟩, g6⟩ := h5
  simp [Cond.before, Cond.holds, Cond.value, h1, h2, h3, h4, g1, g2, g3, g4, g5, g6]
def isCode : Jvm.Cond → Bool
  | .code _ _ _ _ => true
  | _ => false
theorem all_split {L : List Jvm.Cond} {P : Jvm.Cond → Bool} (h1 : L.all (fun c => isCode c || P c) = true) (h2 : ∀ c ∈ L.filter isCode, P c = true) : L.all P = true := by
  refine List.all_eq_true.mpr fun c hc => ?_
  have h := List.all_eq_true.mp h1 c hc
  rcases Bool.eq_false_or_eq_true (isCode c) with hi | hi
  · exact h2 c (List.mem_filter.mpr ⟨hc, hi⟩)
  · simpa [hi] using h
set_option maxRecDepth 65536 in
theorem w_c0 : (Jvm.Cond.code x code maxLocals ret).before args0 about1 = true := code_word (m := ⟨1, 1⟩) (meth := k1m1) (c := k1c1) (by decide +kernel) rfl rfl rfl (by decide +kernel)
set_option maxRecDepth 65536 in
theorem w_c1 : (Jvm.Cond.code ({ cls := "com/example/skyhold/skyhold/SbiBodyIsTypePinLaw", name := "mk", desc := "([CI)Ljava/lang/String;" } : Jvm.MethodName) method_3_code (2 : Nat) (Option.some (Jvm.ClassFile.FieldType.object "java/lang/String"))).before args0 about1 = true := code_word (m := ⟨1, 2⟩) (meth := k1m2) (c := k1c2) (by decide +kernel) rfl rfl rfl (by decide +kernel)
set_option maxRecDepth 65536 in
theorem w_c2 : (Jvm.Cond.code ({ cls := "java/lang/String", name := "<init>", desc := "([C)V" } : Jvm.MethodName) jdk_42_method_3_code (2 : Nat) (Option.none : Option Jvm.ClassFile.FieldType)).before args0 about1 = true := code_word (m := ⟨7, 1⟩) (meth := k7m1) (c := k7c1) (by decide +kernel) rfl rfl rfl (by decide +kernel)
set_option maxRecDepth 65536 in
theorem w_c3 : (Jvm.Cond.code ({ cls := "java/lang/String", name := "<init>", desc := "([CIILjava/lang/Void;)V" } : Jvm.MethodName) jdk_42_method_149_code (6 : Nat) (Option.none : Option Jvm.ClassFile.FieldType)).before args0 about1 = true := code_word (m := ⟨7, 9⟩) (meth := k7m9) (c := k7c9) (by decide +kernel) rfl rfl rfl (by decide +kernel)
set_option maxRecDepth 65536 in
theorem w_c4 : (Jvm.Cond.code ({ cls := "java/lang/Object", name := "<init>", desc := "()V" } : Jvm.MethodName) object_method_1_code (1 : Nat) (Option.none : Option Jvm.ClassFile.FieldType)).before args0 about1 = true := code_word (m := ⟨0, 0⟩) (meth := k0m0) (c := k0c0) (by decide +kernel) rfl rfl rfl (by decide +kernel)
set_option maxRecDepth 65536 in
theorem w_c5 : (Jvm.Cond.code ({ cls := "java/lang/StringUTF16", name := "compress", desc := "([CII)[B" } : Jvm.MethodName) jdk_52_method_16_code (6 : Nat) (Option.some (Jvm.ClassFile.FieldType.array Jvm.ClassFile.FieldType.byte))).before args0 about1 = true := code_word (m := ⟨8, 2⟩) (meth := k8m2) (c := k8c2) (by decide +kernel) rfl rfl rfl (by decide +kernel)
set_option maxRecDepth 65536 in
theorem w_c6 : (Jvm.Cond.code ({ cls := "java/lang/StringUTF16", name := "compress", desc := "([CI[BII)I" } : Jvm.MethodName) jdk_52_method_21_code (7 : Nat) (Option.some Jvm.ClassFile.FieldType.int)).before args0 about1 = true := code_word (m := ⟨8, 3⟩) (meth := k8m3) (c := k8c3) (by decide +kernel) rfl rfl rfl (by decide +kernel)
set_option maxRecDepth 65536 in
theorem w_c7 : (Jvm.Cond.code ({ cls := "java/lang/StringUTF16", name := "coderFromArrayLen", desc := "([BI)B" } : Jvm.MethodName) jdk_52_method_15_code (2 : Nat) (Option.some Jvm.ClassFile.FieldType.byte)).before args0 about1 = true := code_word (m := ⟨8, 1⟩) (meth := k8m1) (c := k8c1) (by decide +kernel) rfl rfl rfl (by decide +kernel)
set_option maxRecDepth 65536 in
theorem w_c8 : (Jvm.Cond.code ({ cls := "com/example/skyhold/skyhold/SbiBody", name := "isType", desc := "(Ljava/lang/String;Ljava/lang/String;)Z" } : Jvm.MethodName) prog_8_method_3_code (4 : Nat) (Option.some Jvm.ClassFile.FieldType.boolean)).before args0 about1 = true := code_word (m := ⟨10, 0⟩) (meth := k10m0) (c := k10c0) (by decide +kernel) rfl rfl rfl (by decide +kernel)
set_option maxRecDepth 65536 in
theorem w_c9 : (Jvm.Cond.code ({ cls := "java/lang/String", name := "indexOf", desc := "(I)I" } : Jvm.MethodName) jdk_42_method_79_code (2 : Nat) (Option.some Jvm.ClassFile.FieldType.int)).before args0 about1 = true := code_word (m := ⟨7, 5⟩) (meth := k7m5) (c := k7c5) (by decide +kernel) rfl rfl rfl (by decide +kernel)
set_option maxRecDepth 65536 in
theorem w_c10 : (Jvm.Cond.code ({ cls := "java/lang/String", name := "indexOf", desc := "(II)I" } : Jvm.MethodName) jdk_42_method_80_code (3 : Nat) (Option.some Jvm.ClassFile.FieldType.int)).before args0 about1 = true := code_word (m := ⟨7, 6⟩) (meth := k7m6) (c := k7c6) (by decide +kernel) rfl rfl rfl (by decide +kernel)
set_option maxRecDepth 65536 in
theorem w_c11 : (Jvm.Cond.code ({ cls := "java/lang/String", name := "isLatin1", desc := "()Z" } : Jvm.MethodName) jdk_42_method_154_code (1 : Nat) (Option.some Jvm.ClassFile.FieldType.boolean)).before args0 about1 = true := code_word (m := ⟨7, 12⟩) (meth := k7m12) (c := k7c12) (by decide +kernel) rfl rfl rfl (by decide +kernel)
set_option maxRecDepth 65536 in
theorem w_c12 : (Jvm.Cond.code ({ cls := "java/lang/String", name := "length", desc := "()I" } : Jvm.MethodName) jdk_42_method_54_code (1 : Nat) (Option.some Jvm.ClassFile.FieldType.int)).before args0 about1 = true := code_word (m := ⟨7, 2⟩) (meth := k7m2) (c := k7c2) (by decide +kernel) rfl rfl rfl (by decide +kernel)
set_option maxRecDepth 65536 in
theorem w_c13 : (Jvm.Cond.code ({ cls := "java/lang/String", name := "coder", desc := "()B" } : Jvm.MethodName) jdk_42_method_152_code (1 : Nat) (Option.some Jvm.ClassFile.FieldType.byte)).before args0 about1 = true := code_word (m := ⟨7, 11⟩) (meth := k7m11) (c := k7c11) (by decide +kernel) rfl rfl rfl (by decide +kernel)
set_option maxRecDepth 65536 in
theorem w_c14 : (Jvm.Cond.code ({ cls := "java/lang/StringLatin1", name := "indexOf", desc := "([BIII)I" } : Jvm.MethodName) jdk_43_method_22_code (4 : Nat) (Option.some Jvm.ClassFile.FieldType.int)).before args0 about1 = true := code_word (m := ⟨11, 2⟩) (meth := k11m2) (c := k11c2) (by decide +kernel) rfl rfl rfl (by decide +kernel)
set_option maxRecDepth 65536 in
theorem w_c15 : (Jvm.Cond.code ({ cls := "java/lang/StringLatin1", name := "canEncode", desc := "(I)Z" } : Jvm.MethodName) jdk_43_method_4_code (1 : Nat) (Option.some Jvm.ClassFile.FieldType.boolean)).before args0 about1 = true := code_word (m := ⟨11, 1⟩) (meth := k11m1) (c := k11c1) (by decide +kernel) rfl rfl rfl (by decide +kernel)
set_option maxRecDepth 65536 in
theorem w_c16 : (Jvm.Cond.code ({ cls := "java/lang/Math", name := "max", desc := "(II)I" } : Jvm.MethodName) jdk_29_method_65_code (2 : Nat) (Option.some Jvm.ClassFile.FieldType.int)).before args0 about1 = true := code_word (m := ⟨12, 1⟩) (meth := k12m1) (c := k12c1) (by decide +kernel) rfl rfl rfl (by decide +kernel)
set_option maxRecDepth 65536 in
theorem w_c17 : (Jvm.Cond.code ({ cls := "java/lang/Math", name := "min", desc := "(II)I" } : Jvm.MethodName) jdk_29_method_69_code (2 : Nat) (Option.some Jvm.ClassFile.FieldType.int)).before args0 about1 = true := code_word (m := ⟨12, 2⟩) (meth := k12m2) (c := k12c2) (by decide +kernel) rfl rfl rfl (by decide +kernel)
set_option maxRecDepth 65536 in
theorem w_c18 : (Jvm.Cond.code ({ cls := "java/lang/StringLatin1", name := "indexOfChar", desc := "([BIII)I" } : Jvm.MethodName) jdk_43_method_23_code (6 : Nat) (Option.some Jvm.ClassFile.FieldType.int)).before args0 about1 = true := code_word (m := ⟨11, 3⟩) (meth := k11m3) (c := k11c3) (by decide +kernel) rfl rfl rfl (by decide +kernel)
set_option maxRecDepth 65536 in
theorem w_c19 : (Jvm.Cond.code ({ cls := "java/lang/String", name := "trim", desc := "()Ljava/lang/String;" } : Jvm.MethodName) jdk_42_method_113_code (2 : Nat) (Option.some (Jvm.ClassFile.FieldType.object "java/lang/String"))).before args0 about1 = true := code_word (m := ⟨7, 8⟩) (meth := k7m8) (c := k7c8) (by decide +kernel) rfl rfl rfl (by decide +kernel)
set_option maxRecDepth 65536 in
theorem w_c20 : (Jvm.Cond.code ({ cls := "java/lang/StringLatin1", name := "trim", desc := "([B)Ljava/lang/String;" } : Jvm.MethodName) jdk_43_method_36_code (3 : Nat) (Option.some (Jvm.ClassFile.FieldType.object "java/lang/String"))).before args0 about1 = true := code_word (m := ⟨11, 5⟩) (meth := k11m5) (c := k11c5) (by decide +kernel) rfl rfl rfl (by decide +kernel)
set_option maxRecDepth 65536 in
theorem w_c21 : (Jvm.Cond.code ({ cls := "java/lang/StringLatin1", name := "newString", desc := "([BII)Ljava/lang/String;" } : Jvm.MethodName) jdk_43_method_47_code (3 : Nat) (Option.some (Jvm.ClassFile.FieldType.object "java/lang/String"))).before args0 about1 = true := code_word (m := ⟨11, 6⟩) (meth := k11m6) (c := k11c6) (by decide +kernel) rfl rfl rfl (by decide +kernel)
set_option maxRecDepth 65536 in
theorem w_c22 : (Jvm.Cond.code ({ cls := "java/lang/String", name := "equalsIgnoreCase", desc := "(Ljava/lang/String;)Z" } : Jvm.MethodName) jdk_42_method_70_code (2 : Nat) (Option.some Jvm.ClassFile.FieldType.boolean)).before args0 about1 = true := code_word (m := ⟨7, 3⟩) (meth := k7m3) (c := k7c3) (by decide +kernel) rfl rfl rfl (by decide +kernel)
set_option maxRecDepth 65536 in
theorem w_c23 : (Jvm.Cond.code ({ cls := "java/lang/String", name := "regionMatches", desc := "(ZILjava/lang/String;II)Z" } : Jvm.MethodName) jdk_42_method_74_code (9 : Nat) (Option.some Jvm.ClassFile.FieldType.boolean)).before args0 about1 = true := code_word (m := ⟨7, 4⟩) (meth := k7m4) (c := k7c4) (by decide +kernel) rfl rfl rfl (by decide +kernel)
set_option maxRecDepth 65536 in
theorem w_c24 : (Jvm.Cond.code ({ cls := "java/lang/StringLatin1", name := "regionMatchesCI", desc := "([BI[BII)Z" } : Jvm.MethodName) jdk_43_method_30_code (8 : Nat) (Option.some Jvm.ClassFile.FieldType.boolean)).before args0 about1 = true := code_word (m := ⟨11, 4⟩) (meth := k11m4) (c := k11c4) (by decide +kernel) rfl rfl rfl (by decide +kernel)
set_option maxRecDepth 65536 in
theorem w_c25 : (Jvm.Cond.code ({ cls := "com/example/skyhold/skyhold/SbiBodyIsTypePinLaw", name := "firstSemi", desc := "([CI)I" } : Jvm.MethodName) method_4_code (2 : Nat) (Option.some Jvm.ClassFile.FieldType.int)).before args0 about1 = true := code_word (m := ⟨1, 3⟩) (meth := k1m3) (c := k1c3) (by decide +kernel) rfl rfl rfl (by decide +kernel)
set_option maxRecDepth 65536 in
theorem w_c26 : (Jvm.Cond.code ({ cls := "com/example/skyhold/skyhold/SbiBodyIsTypePinLaw", name := "start", desc := "([CI)I" } : Jvm.MethodName) method_5_code (2 : Nat) (Option.some Jvm.ClassFile.FieldType.int)).before args0 about1 = true := code_word (m := ⟨1, 4⟩) (meth := k1m4) (c := k1c4) (by decide +kernel) rfl rfl rfl (by decide +kernel)
set_option maxRecDepth 65536 in
theorem w_c27 : (Jvm.Cond.code ({ cls := "com/example/skyhold/skyhold/SbiBodyIsTypePinLaw", name := "end", desc := "([CII)I" } : Jvm.MethodName) method_6_code (3 : Nat) (Option.some Jvm.ClassFile.FieldType.int)).before args0 about1 = true := code_word (m := ⟨1, 5⟩) (meth := k1m5) (c := k1c5) (by decide +kernel) rfl rfl rfl (by decide +kernel)
set_option maxRecDepth 65536 in
theorem w_c28 : (Jvm.Cond.code ({ cls := "com/example/skyhold/skyhold/SbiBodyIsTypePinLaw", name := "eqAt", desc := "([CI[CII)Z" } : Jvm.MethodName) method_8_code (5 : Nat) (Option.some Jvm.ClassFile.FieldType.boolean)).before args0 about1 = true := code_word (m := ⟨1, 7⟩) (meth := k1m7) (c := k1c7) (by decide +kernel) rfl rfl rfl (by decide +kernel)
set_option maxRecDepth 65536 in
theorem w_c29 : (Jvm.Cond.code ({ cls := "java/lang/CharacterDataLatin1", name := "equalsIgnoreCase", desc := "(BB)Z" } : Jvm.MethodName) jdk_116_method_22_code (3 : Nat) (Option.some Jvm.ClassFile.FieldType.boolean)).before args0 about1 = true := code_word (m := ⟨14, 0⟩) (meth := k14m0) (c := k14c0) (by decide +kernel) rfl rfl rfl (by decide +kernel)
set_option maxRecDepth 65536 in
theorem w_c30 : (Jvm.Cond.code ({ cls := "com/example/skyhold/skyhold/SbiBodyIsTypePinLaw", name := "fold", desc := "(C)I" } : Jvm.MethodName) method_7_code (1 : Nat) (Option.some Jvm.ClassFile.FieldType.int)).before args0 about1 = true := code_word (m := ⟨1, 6⟩) (meth := k1m6) (c := k1c6) (by decide +kernel) rfl rfl rfl (by decide +kernel)
set_option maxRecDepth 65536 in
theorem w_c31 : (Jvm.Cond.code ({ cls := "java/util/Arrays", name := "copyOfRange", desc := "([BII)[B" } : Jvm.MethodName) jdk_65_method_132_code (3 : Nat) (Option.some (Jvm.ClassFile.FieldType.array Jvm.ClassFile.FieldType.byte))).before args0 about1 = true := code_word (m := ⟨15, 2⟩) (meth := k15m2) (c := k15c2) (by decide +kernel) rfl rfl rfl (by decide +kernel)
set_option maxRecDepth 65536 in
theorem w_c32 : (Jvm.Cond.code ({ cls := "java/util/Arrays", name := "copyOfRangeByte", desc := "([BII)[B" } : Jvm.MethodName) jdk_65_method_133_code (5 : Nat) (Option.some (Jvm.ClassFile.FieldType.array Jvm.ClassFile.FieldType.byte))).before args0 about1 = true := code_word (m := ⟨15, 3⟩) (meth := k15m3) (c := k15c3) (by decide +kernel) rfl rfl rfl (by decide +kernel)
set_option maxRecDepth 65536 in
theorem w_c33 : (Jvm.Cond.code ({ cls := "java/util/Arrays", name := "checkLength", desc := "(II)V" } : Jvm.MethodName) jdk_65_method_131_code (2 : Nat) (Option.none : Option Jvm.ClassFile.FieldType)).before args0 about1 = true := code_word (m := ⟨15, 1⟩) (meth := k15m1) (c := k15c1) (by decide +kernel) rfl rfl rfl (by decide +kernel)
set_option maxRecDepth 65536 in
theorem w_c34 : (Jvm.Cond.code ({ cls := "java/lang/String", name := "<init>", desc := "([BB)V" } : Jvm.MethodName) jdk_42_method_151_code (3 : Nat) (Option.none : Option Jvm.ClassFile.FieldType)).before args0 about1 = true := code_word (m := ⟨7, 10⟩) (meth := k7m10) (c := k7c10) (by decide +kernel) rfl rfl rfl (by decide +kernel)
set_option maxRecDepth 65536 in
theorem w_c35 : (Jvm.Cond.code ({ cls := "java/lang/String", name := "substring", desc := "(II)Ljava/lang/String;" } : Jvm.MethodName) jdk_42_method_92_code (5 : Nat) (Option.some (Jvm.ClassFile.FieldType.object "java/lang/String"))).before args0 about1 = true := code_word (m := ⟨7, 7⟩) (meth := k7m7) (c := k7c7) (by decide +kernel) rfl rfl rfl (by decide +kernel)
set_option maxRecDepth 65536 in
theorem w_c36 : (Jvm.Cond.code ({ cls := "java/lang/String", name := "checkBoundsBeginEnd", desc := "(III)V" } : Jvm.MethodName) jdk_42_method_158_code (3 : Nat) (Option.none : Option Jvm.ClassFile.FieldType)).before args0 about1 = true := code_word (m := ⟨7, 13⟩) (meth := k7m13) (c := k7c13) (by decide +kernel) rfl rfl rfl (by decide +kernel)
set_option maxRecDepth 65536 in
theorem w_c37 : (Jvm.Cond.code ({ cls := "jdk/internal/util/Preconditions", name := "checkFromToIndex", desc := "(IIILjava/util/function/BiFunction;)I" } : Jvm.MethodName) jdk_41_method_12_code (4 : Nat) (Option.some Jvm.ClassFile.FieldType.int)).before args0 about1 = true := code_word (m := ⟨17, 1⟩) (meth := k17m1) (c := k17c1) (by decide +kernel) rfl rfl rfl (by decide +kernel)
def codes1 : List Jvm.Cond := [Jvm.Cond.code x code maxLocals ret, Jvm.Cond.code ({ cls := "com/example/skyhold/skyhold/SbiBodyIsTypePinLaw", name := "mk", desc := "([CI)Ljava/lang/String;" } : Jvm.MethodName) method_3_code (2 : Nat) (Option.some (Jvm.ClassFile.FieldType.object "java/lang/String")), Jvm.Cond.code ({ cls := "java/lang/String", name := "<init>", desc := "([C)V" } : Jvm.MethodName) jdk_42_method_3_code (2 : Nat) (Option.none : Option Jvm.ClassFile.FieldType), Jvm.Cond.code ({ cls := "java/lang/String", name := "<init>", desc := "([CIILjava/lang/Void;)V" } : Jvm.MethodName) jdk_42_method_149_code (6 : Nat) (Option.none : Option Jvm.ClassFile.FieldType), Jvm.Cond.code ({ cls := "java/lang/Object", name := "<init>", desc := "()V" } : Jvm.MethodName) object_method_1_code (1 : Nat) (Option.none : Option Jvm.ClassFile.FieldType), Jvm.Cond.code ({ cls := "java/lang/StringUTF16", name := "compress", desc := "([CII)[B" } : Jvm.MethodName) jdk_52_method_16_code (6 : Nat) (Option.some (Jvm.ClassFile.FieldType.array Jvm.ClassFile.FieldType.byte)), Jvm.Cond.code ({ cls := "java/lang/StringUTF16", name := "compress", desc := "([CI[BII)I" } : Jvm.MethodName) jdk_52_method_21_code (7 : Nat) (Option.some Jvm.ClassFile.FieldType.int), Jvm.Cond.code ({ cls := "java/lang/StringUTF16", name := "coderFromArrayLen", desc := "([BI)B" } : Jvm.MethodName) jdk_52_method_15_code (2 : Nat) (Option.some Jvm.ClassFile.FieldType.byte), Jvm.Cond.code ({ cls := "com/example/skyhold/skyhold/SbiBody", name := "isType", desc := "(Ljava/lang/String;Ljava/lang/String;)Z" } : Jvm.MethodName) prog_8_method_3_code (4 : Nat) (Option.some Jvm.ClassFile.FieldType.boolean), Jvm.Cond.code ({ cls := "java/lang/String", name := "indexOf", desc := "(I)I" } : Jvm.MethodName) jdk_42_method_79_code (2 : Nat) (Option.some Jvm.ClassFile.FieldType.int), Jvm.Cond.code ({ cls := "java/lang/String", name := "indexOf", desc := "(II)I" } : Jvm.MethodName) jdk_42_method_80_code (3 : Nat) (Option.some Jvm.ClassFile.FieldType.int), Jvm.Cond.code ({ cls := "java/lang/String", name := "isLatin1", desc := "()Z" } : Jvm.MethodName) jdk_42_method_154_code (1 : Nat) (Option.some Jvm.ClassFile.FieldType.boolean), Jvm.Cond.code ({ cls := "java/lang/String", name := "length", desc := "()I" } : Jvm.MethodName) jdk_42_method_54_code (1 : Nat) (Option.some Jvm.ClassFile.FieldType.int), Jvm.Cond.code ({ cls := "java/lang/String", name := "coder", desc := "()B" } : Jvm.MethodName) jdk_42_method_152_code (1 : Nat) (Option.some Jvm.ClassFile.FieldType.byte), Jvm.Cond.code ({ cls := "java/lang/StringLatin1", name := "indexOf", desc := "([BIII)I" } : Jvm.MethodName) jdk_43_method_22_code (4 : Nat) (Option.some Jvm.ClassFile.FieldType.int), Jvm.Cond.code ({ cls := "java/lang/StringLatin1", name := "canEncode", desc := "(I)Z" } : Jvm.MethodName) jdk_43_method_4_code (1 : Nat) (Option.some Jvm.ClassFile.FieldType.boolean), Jvm.Cond.code ({ cls := "java/lang/Math", name := "max", desc := "(II)I" } : Jvm.MethodName) jdk_29_method_65_code (2 : Nat) (Option.some Jvm.ClassFile.FieldType.int), Jvm.Cond.code ({ cls := "java/lang/Math", name := "min", desc := "(II)I" } : Jvm.MethodName) jdk_29_method_69_code (2 : Nat) (Option.some Jvm.ClassFile.FieldType.int), Jvm.Cond.code ({ cls := "java/lang/StringLatin1", name := "indexOfChar", desc := "([BIII)I" } : Jvm.MethodName) jdk_43_method_23_code (6 : Nat) (Option.some Jvm.ClassFile.FieldType.int), Jvm.Cond.code ({ cls := "java/lang/String", name := "trim", desc := "()Ljava/lang/String;" } : Jvm.MethodName) jdk_42_method_113_code (2 : Nat) (Option.some (Jvm.ClassFile.FieldType.object "java/lang/String")), Jvm.Cond.code ({ cls := "java/lang/StringLatin1", name := "trim", desc := "([B)Ljava/lang/String;" } : Jvm.MethodName) jdk_43_method_36_code (3 : Nat) (Option.some (Jvm.ClassFile.FieldType.object "java/lang/String")), Jvm.Cond.code ({ cls := "java/lang/StringLatin1", name := "newString", desc := "([BII)Ljava/lang/String;" } : Jvm.MethodName) jdk_43_method_47_code (3 : Nat) (Option.some (Jvm.ClassFile.FieldType.object "java/lang/String")), Jvm.Cond.code ({ cls := "java/lang/String", name := "equalsIgnoreCase", desc := "(Ljava/lang/String;)Z" } : Jvm.MethodName) jdk_42_method_70_code (2 : Nat) (Option.some Jvm.ClassFile.FieldType.boolean), Jvm.Cond.code ({ cls := "java/lang/String", name := "regionMatches", desc := "(ZILjava/lang/String;II)Z" } : Jvm.MethodName) jdk_42_method_74_code (9 : Nat) (Option.some Jvm.ClassFile.FieldType.boolean), Jvm.Cond.code ({ cls := "java/lang/StringLatin1", name := "regionMatchesCI", desc := "([BI[BII)Z" } : Jvm.MethodName) jdk_43_method_30_code (8 : Nat) (Option.some Jvm.ClassFile.FieldType.boolean), Jvm.Cond.code ({ cls := "com/example/skyhold/skyhold/SbiBodyIsTypePinLaw", name := "firstSemi", desc := "([CI)I" } : Jvm.MethodName) method_4_code (2 : Nat) (Option.some Jvm.ClassFile.FieldType.int), Jvm.Cond.code ({ cls := "com/example/skyhold/skyhold/SbiBodyIsTypePinLaw", name := "start", desc := "([CI)I" } : Jvm.MethodName) method_5_code (2 : Nat) (Option.some Jvm.ClassFile.FieldType.int), Jvm.Cond.code ({ cls := "com/example/skyhold/skyhold/SbiBodyIsTypePinLaw", name := "end", desc := "([CII)I" } : Jvm.MethodName) method_6_code (3 : Nat) (Option.some Jvm.ClassFile.FieldType.int), Jvm.Cond.code ({ cls := "com/example/skyhold/skyhold/SbiBodyIsTypePinLaw", name := "eqAt", desc := "([CI[CII)Z" } : Jvm.MethodName) method_8_code (5 : Nat) (Option.some Jvm.ClassFile.FieldType.boolean), Jvm.Cond.code ({ cls := "java/lang/CharacterDataLatin1", name := "equalsIgnoreCase", desc := "(BB)Z" } : Jvm.MethodName) jdk_116_method_22_code (3 : Nat) (Option.some Jvm.ClassFile.FieldType.boolean), Jvm.Cond.code ({ cls := "com/example/skyhold/skyhold/SbiBodyIsTypePinLaw", name := "fold", desc := "(C)I" } : Jvm.MethodName) method_7_code (1 : Nat) (Option.some Jvm.ClassFile.FieldType.int), Jvm.Cond.code ({ cls := "java/util/Arrays", name := "copyOfRange", desc := "([BII)[B" } : Jvm.MethodName) jdk_65_method_132_code (3 : Nat) (Option.some (Jvm.ClassFile.FieldType.array Jvm.ClassFile.FieldType.byte)), Jvm.Cond.code ({ cls := "java/util/Arrays", name := "copyOfRangeByte", desc := "([BII)[B" } : Jvm.MethodName) jdk_65_method_133_code (5 : Nat) (Option.some (Jvm.ClassFile.FieldType.array Jvm.ClassFile.FieldType.byte)), Jvm.Cond.code ({ cls := "java/util/Arrays", name := "checkLength", desc := "(II)V" } : Jvm.MethodName) jdk_65_method_131_code (2 : Nat) (Option.none : Option Jvm.ClassFile.FieldType), Jvm.Cond.code ({ cls := "java/lang/String", name := "<init>", desc := "([BB)V" } : Jvm.MethodName) jdk_42_method_151_code (3 : Nat) (Option.none : Option Jvm.ClassFile.FieldType), Jvm.Cond.code ({ cls := "java/lang/String", name := "substring", desc := "(II)Ljava/lang/String;" } : Jvm.MethodName) jdk_42_method_92_code (5 : Nat) (Option.some (Jvm.ClassFile.FieldType.object "java/lang/String")), Jvm.Cond.code ({ cls := "java/lang/String", name := "checkBoundsBeginEnd", desc := "(III)V" } : Jvm.MethodName) jdk_42_method_158_code (3 : Nat) (Option.none : Option Jvm.ClassFile.FieldType), Jvm.Cond.code ({ cls := "jdk/internal/util/Preconditions", name := "checkFromToIndex", desc := "(IIILjava/util/function/BiFunction;)I" } : Jvm.MethodName) jdk_41_method_12_code (4 : Nat) (Option.some Jvm.ClassFile.FieldType.int)]
set_option maxRecDepth 65536 in
theorem codes_eq : words1.filter isCode = codes1 := rfl
theorem w_codes : ∀ c ∈ words1.filter isCode, c.before args0 about1 = true := by
  rw [codes_eq]
  intro c hc
  simp only [codes1, List.mem_cons, List.not_mem_nil, or_false] at hc
  rcases hc with rfl | rfl | rfl | rfl | rfl | rfl | rfl | rfl | rfl | rfl | rfl | rfl | rfl | rfl | rfl | rfl | rfl | rfl | rfl | rfl | rfl | rfl | rfl | rfl | rfl | rfl | rfl | rfl | rfl | rfl | rfl | rfl | rfl | rfl | rfl | rfl | rfl | rfl
  · exact w_c0
  · exact w_c1
  · exact w_c2
  · exact w_c3
  · exact w_c4
  · exact w_c5
  · exact w_c6
  · exact w_c7
  · exact w_c8
  · exact w_c9
  · exact w_c10
  · exact w_c11
  · exact w_c12
  · exact w_c13
  · exact w_c14
  · exact w_c15
  · exact w_c16
  · exact w_c17
  · exact w_c18
  · exact w_c19
  · exact w_c20
  · exact w_c21
  · exact w_c22
  · exact w_c23
  · exact w_c24
  · exact w_c25
  · exact w_c26
  · exact w_c27
  · exact w_c28
  · exact w_c29
  · exact w_c30
  · exact w_c31
  · exact w_c32
  · exact w_c33
  · exact w_c34
  · exact w_c35
  · exact w_c36
  · exact w_c37
set_option maxRecDepth 65536 in
theorem w_t1 : (words1.take 24).all (fun c => isCode c || c.before args0 about1) = true := by decide +kernel
set_option maxRecDepth 65536 in
theorem w_t2 : ((words1.drop 24).take 24).all (fun c => isCode c || c.before args0 about1) = true := by decide +kernel
set_option maxRecDepth 65536 in
theorem w_t3 : (((words1.drop 24).drop 24).take 24).all (fun c => isCode c || c.before args0 about1) = true := by decide +kernel
set_option maxRecDepth 65536 in
theorem w_t4 : ((((words1.drop 24).drop 24).drop 24).take 24).all (fun c => isCode c || c.before args0 about1) = true := by decide +kernel
set_option maxRecDepth 65536 in
theorem w_t5 : (((((words1.drop 24).drop 24).drop 24).drop 24).take 24).all (fun c => isCode c || c.before args0 about1) = true := by decide +kernel
set_option maxRecDepth 65536 in
theorem w_t6 : ((((((words1.drop 24).drop 24).drop 24).drop 24).drop 24).take 24).all (fun c => isCode c || c.before args0 about1) = true := by decide +kernel
set_option maxRecDepth 65536 in
theorem w_t7 : ((((((words1.drop 24).drop 24).drop 24).drop 24).drop 24).drop 24).all (fun c => isCode c || c.before args0 about1) = true := by decide +kernel
theorem w_tables : (allAtoms (Jvm.Cond.code x code maxLocals ret :: tables_1)).before args0 about1 = true := by
  rw [allAtoms_all]
  show words1.all (fun c => c.before args0 about1) = true
  refine all_split ?_ w_codes
  rw [← List.take_append_drop 24 words1, List.all_append, w_t1, ← List.take_append_drop 24 (words1.drop 24), List.all_append, w_t2, ← List.take_append_drop 24 ((words1.drop 24).drop 24), List.all_append, w_t3, ← List.take_append_drop 24 (((words1.drop 24).drop 24).drop 24), List.all_append, w_t4, ← List.take_append_drop 24 ((((words1.drop 24).drop 24).drop 24).drop 24), List.all_append, w_t5, ← List.take_append_drop 24 (((((words1.drop 24).drop 24).drop 24).drop 24).drop 24), List.all_append, w_t6, w_t7]
  rfl
set_option maxRecDepth 65536 in
theorem w_rest : rest_1_c.before args0 about1 = true := by decide +kernel
set_option maxRecDepth 65536 in
theorem w_case : (Jvm.Cond.and given_1 narrow_1).before args0 about1 = true := by decide +kernel
set_option maxRecDepth 65536 in
theorem w_consts : constsHeld consts_1 about1 := Jvm.Lit.constsHeldB_iff.mp (by decide +kernel)
theorem w_applies : (headSpec (Jvm.Cond.code x code maxLocals ret :: tables_1) room_1).applies x e0.platform about1 = true :=
  (Spec.applies_iff w_frames).mpr ⟨w_running, w_runnable, w_alone, w_named, w_hears, w_ripe, w_room, w_tables⟩
theorem atStart : AtStart classFile x code maxLocals ret World_1 tables_1 room_1 Calls_1 rest_1 Pre_1 launch0 p0 e0 about1 theMethod args0 below0 :=
  ⟨lists_1, trivial, launch0.admits_env _ _ _, launch0.least_env, fairChoices_fair.cas, fairChoices_fair.clock, w_frames, w_args, w_heap, w_applies, ⟨w_consts, trivial⟩, w_rest, w_case⟩
end start1
theorem witness_1 : WitnessClaimed_1 := ⟨start1.p0, start1.e0, start1.about1, start1.theMethod, start1.args0, start1.below0, start1.atStart⟩
end Jvm.Pilot.@@N@@
