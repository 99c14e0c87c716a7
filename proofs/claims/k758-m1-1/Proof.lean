import JvmDerived
import JvmDerived.Pilot.@@N@@Statement
import JvmDerived.Pilot.@@N@@Code
set_option linter.unusedVariables false
set_option linter.unusedSimpArgs false
/- laws to paste: Road.eqW, Road.codOf (cut by pick.py; bodies as the Statement names them) -/
namespace Jvm.Pilot.@@N@@
namespace StrChars
open Jvm Sem ClassFile Op Lib Jvm.Stand Jvm.Free.XT Jvm.Free.ALB Jvm.Free.JM Jvm.Free
open Jvm.Lib.Cold (StaticIs)
/-- a char array whose places are chars -/
def Ch (a : Addr) (A : Cell) (U : State) : Prop := Arr .char a A U ∧ Typed .char A
theorem Ch.mv {a : Addr} {A : Cell} {U U' : State} (h : Ch a A U) (hal : U.vm.Alike U'.vm) (hh : U'.heap = U.heap) : Ch a A U' := ⟨h.1.mv hal hh, h.2⟩
theorem Ch.keep {a : Addr} {A : Cell} {U U' : State} (h : Ch a A U) (hal : U.vm.Alike U'.vm) (hk : U'.heap[a]? = some A) : Ch a A U' := ⟨h.1.keep hal hk, h.2⟩
/-- what place i of a char[]'s cell holds -/
def cv (A : Cell) (i : Nat) : Int32 := match A.slots[i]? with | some (.int x) => x | _ => 0
theorem Ch.get {a : Addr} {A : Cell} {U : State} (h : Ch a A U) {i : Nat} (hi : i < A.slots.size) : A.slots[i]? = some (.int (cv A i)) := by
  have e := Array.getElem?_eq_getElem hi
  have f := h.2 i _ e
  unfold cv; rw [e]
  generalize A.slots[i] = v at f
  cases v <;> simp [fits] at f ⊢
/-- the byte that i2b leaves of a char -/
def lo8 (x : Int32) : Int32 := x.toInt8.toInt32
theorem fits_lo8 (y : Int32) : fits .byte (.int (lo8 y)) = true := by
  have h1 := y.toInt8.le_toInt
  have h2 := y.toInt8.toInt_lt
  simp only [lo8, fits, Bool.and_eq_true, decide_eq_true_eq, Int32.le_iff_toInt_le, Int8.toInt_toInt32, show (-128 : Int32).toInt = -128 from by decide, show (127 : Int32).toInt = 127 from by decide]
  omega
/-- A' is A but that each place j of lo .. hi - 1 holds f j -/
def Laid (A A' : Cell) (lo hi : Nat) (f : Nat → Value) : Prop := A'.cls = A.cls ∧ A'.vm = A.vm ∧ A'.slots.size = A.slots.size ∧ ∀ i, A'.slots[i]? = if lo ≤ i ∧ i < hi then some (f i) else A.slots[i]?
theorem Laid.zero (A : Cell) (lo : Nat) (f : Nat → Value) : Laid A A lo (lo + 0) f := ⟨rfl, rfl, rfl, fun i => by rw [if_neg (by omega)]⟩
theorem Laid.step {A Ak : Cell} {lo k : Nat} {f : Nat → Value} {v : Value} (h : Laid A Ak lo k f) (hlo : lo ≤ k) (hk : k < Ak.slots.size) (hv : v = f k) : Laid A (Ak.setSlot k v) lo (k + 1) f := by
  refine ⟨h.1, h.2.1, by simpa [Cell.setSlot] using h.2.2.1, fun i => ?_⟩
  by_cases e : k = i
  · subst e; rw [Cell.slots_setSlot_self v hk, if_pos (by omega), hv]
  · rw [Cell.slots_setSlot_ne v e, h.2.2.2 i]
    by_cases q : lo ≤ i ∧ i < k
    · rw [if_pos q, if_pos (by omega)]
    · rw [if_neg q, if_neg (by omega)]
def U16 : String := "java/lang/StringUTF16"
namespace Cmp5
def yN : MethodName := ⟨"java/lang/StringUTF16", "compress", "([CI[BII)I"⟩
abbrev yB : ByteArray := jdk_52_method_21_code
theorem d0 : decode yB 0 = .ok (.iconst 0, 1) := by decide +kernel
theorem d1 : decode yB 1 = .ok (.istore 5, 2) := by decide +kernel
theorem d3 : decode yB 3 = .ok (.iload 5, 2) := by decide +kernel
theorem d5 : decode yB 5 = .ok (.iload 4, 2) := by decide +kernel
theorem d7 : decode yB 7 = .ok (.if_icmp (.ge) 37, 3) := by decide +kernel
theorem d10 : decode yB 10 = .ok (.aload_n 0, 1) := by decide +kernel
theorem d11 : decode yB 11 = .ok (.iload_n 1, 1) := by decide +kernel
theorem d12 : decode yB 12 = .ok (.caload, 1) := by decide +kernel
theorem d13 : decode yB 13 = .ok (.istore 6, 2) := by decide +kernel
theorem d15 : decode yB 15 = .ok (.iload 6, 2) := by decide +kernel
theorem d17 : decode yB 17 = .ok (.sipush 255, 3) := by decide +kernel
theorem d20 : decode yB 20 = .ok (.if_icmp (.le) 6, 3) := by decide +kernel
theorem d26 : decode yB 26 = .ok (.aload_n 2, 1) := by decide +kernel
theorem d27 : decode yB 27 = .ok (.iload_n 3, 1) := by decide +kernel
theorem d28 : decode yB 28 = .ok (.iload 6, 2) := by decide +kernel
theorem d30 : decode yB 30 = .ok (.i2b, 1) := by decide +kernel
theorem d31 : decode yB 31 = .ok (.bastore, 1) := by decide +kernel
theorem d32 : decode yB 32 = .ok (.iinc 1 1, 3) := by decide +kernel
theorem d35 : decode yB 35 = .ok (.iinc 3 1, 3) := by decide +kernel
theorem d38 : decode yB 38 = .ok (.iinc 5 1, 3) := by decide +kernel
theorem d41 : decode yB 41 = .ok (.goto (-38), 3) := by decide +kernel
theorem d44 : decode yB 44 = .ok (.iload 4, 2) := by decide +kernel
theorem d46 : decode yB 46 = .ok (.ireturn, 1) := by decide +kernel
def site : List Cond := []
def tab : Cond := tabOf yN yB 7 (some .int) site
def P (b : Addr) (A : Cell) (d : Addr) (B : Cell) (o q len : Nat) (args : Array Value) (s : State) : Prop := args = #[.ref b, .int (Int32.ofNat o), .ref d, .int (Int32.ofNat q), .int (Int32.ofNat len)] ∧ Ch b A s ∧ Arr .byte d B s ∧ b ≠ d ∧ o + len ≤ A.slots.size ∧ q + len ≤ B.slots.size ∧ ∀ i, i < len → ¬ 255 < cv A (o + i)
def E (b : Addr) (A : Cell) (d : Addr) (B : Cell) (o q len : Nat) (r : Option Value) (s u : State) : Prop := r = some (.int (Int32.ofNat len)) ∧ ∃ B', Put d B' s u ∧ Laid B B' q (q + len) (fun j => Value.int (lo8 (cv A (o + (j - q)))))
/-- no char of the range above 255: len; the places written hold each char's low byte -/
theorem law (l : Launch) (b : Addr) (A : Cell) (d : Addr) (B : Cell) (o q len : Nat) : Law l yN 5 5 0 0 yB 7 (some .int) site (P b A d B o q len) (E b A d B o q len) (copyLocs d q len) 0 0 := by
  refine Law.of_walk (plainFor_of_name (by decide +kernel)) (by decide +kernel) (by decide +kernel) (by decide) (fun _ _ h => by rw [h.1]; rfl) (fun _ U U' hal hh h => ⟨h.1, h.2.1.mv hal hh, h.2.2.1.mv hal hh, h.2.2.2⟩) (fun r U U' V V' h1 hal h2 h => ⟨h.1, h.2.elim fun B' q => ⟨B', q.1.mv h1 h2, q.2⟩⟩) ?_
  intro p e s m args below meth c s₁ X0 hexec hbytes hml hret hlk hnm hown hh0 W hP
  obtain ⟨rfl, hA, hB, hne, l1, l2, hp⟩ := hP
  have c1 : Steps p.tables e below (s₁.setTop (entryFrame m #[.ref b, .int (Int32.ofNat o), .ref d, .int (Int32.ofNat q), .int (Int32.ofNat len)] 7)) (s₁.setTop (mkF m 0 #[.val (.ref b), .val (.int (Int32.ofNat o)), .val (.ref d), .val (.int (Int32.ofNat q)), .val (.int (Int32.ofNat len)), .unset, .unset] [])) := entry rfl
  have hA0 := hA.1.mv X0.warmed.alike hh0
  have hB0 := hB.mv X0.warmed.alike hh0
  have a31 := hA.1.2.2.2
  have c2 : Steps p.tables e below (s₁.setTop (entryFrame m #[.ref b, .int (Int32.ofNat o), .ref d, .int (Int32.ofNat q), .int (Int32.ofNat len)] 7)) (s₁.setTop (mkF m 3 #[.val (.ref b), .val (.int (Int32.ofNat o)), .val (.ref d), .val (.int (Int32.ofNat q)), .val (.int (Int32.ofNat len)), .val (.int 0), .unset] [])) := c1.trans (by
    refine iconstV X0.here hexec rfl 0 (hb hbytes d0) (by decide) ?_
    refine XS.istore X0.here hexec rfl (hb hbytes d1) rfl rfl ?_
    exact Steps.refl _)
  have loop : ∀ (r i : Nat), i + r = len → ∀ (z : Slot), (z = .unset ∨ ∃ w, z = .val w ∧ w.category = 1) → ∀ (Tl : State) (Bk : Cell), Stand p l e { frames := 0, locals := 0, cells := 0, slots := 0 } s m #[.ref b, .int (Int32.ofNat o), .ref d, .int (Int32.ofNat q), .int (Int32.ofNat len)] below meth c Tl ([] ++ copyLocs d q i) 0 0 → Put d Bk s₁ Tl → Laid B Bk q (q + i) (fun j => Value.int (lo8 (cv A (o + (j - q))))) →
      Steps p.tables e below (s₁.setTop (entryFrame m #[.ref b, .int (Int32.ofNat o), .ref d, .int (Int32.ofNat q), .int (Int32.ofNat len)] 7)) (Tl.setTop (mkF m 3 #[.val (.ref b), .val (.int (Int32.ofNat (o + i))), .val (.ref d), .val (.int (Int32.ofNat (q + i))), .val (.int (Int32.ofNat len)), .val (.int (Int32.ofNat i)), z] [])) → ∃ (T' : State) (B' : Cell) (z' : Slot), Stand p l e { frames := 0, locals := 0, cells := 0, slots := 0 } s m #[.ref b, .int (Int32.ofNat o), .ref d, .int (Int32.ofNat q), .int (Int32.ofNat len)] below meth c T' ([] ++ copyLocs d q len) 0 0 ∧ Put d B' s₁ T' ∧ Laid B B' q (q + len) (fun j => Value.int (lo8 (cv A (o + (j - q))))) ∧
      Steps p.tables e below (s₁.setTop (entryFrame m #[.ref b, .int (Int32.ofNat o), .ref d, .int (Int32.ofNat q), .int (Int32.ofNat len)] 7)) (T'.setTop (mkF m 3 #[.val (.ref b), .val (.int (Int32.ofNat (o + len))), .val (.ref d), .val (.int (Int32.ofNat (q + len))), .val (.int (Int32.ofNat len)), .val (.int (Int32.ofNat len)), z'] [])) := by
    intro r
    induction r with
    | zero =>
      intro i hi z hz Tl Bk Xl pl fl cl
      have hil : i = len := by omega
      rw [hil] at Xl fl cl
      exact ⟨Tl, Bk, z, Xl, pl, fl, cl⟩
    | succ r ih =>
      intro i hi z hz Tl Bk Xl pl fl cl
      have all := X0.warmed.alike.symm.trans Xl.warmed.alike
      have hAl := hA0.keep all (pl.other hne hA0.1)
      have hBk := hB0.like all pl.1 fl.1 fl.2.1 fl.2.2.1
      have hlt : q + i < Bk.slots.size := by rw [fl.2.2.1]; omega
      have c3 : Steps p.tables e below (s₁.setTop (entryFrame m #[.ref b, .int (Int32.ofNat o), .ref d, .int (Int32.ofNat q), .int (Int32.ofNat len)] 7)) (Tl.setTop (mkF m 12 #[.val (.ref b), .val (.int (Int32.ofNat (o + i))), .val (.ref d), .val (.int (Int32.ofNat (q + i))), .val (.int (Int32.ofNat len)), .val (.int (Int32.ofNat i)), z] [.int (Int32.ofNat (o + i)), .ref b])) := cl.trans (by
        refine XS.iload Xl.here hexec rfl (hb hbytes d3) rfl ?_
        refine XS.iload Xl.here hexec rfl (hb hbytes d5) rfl ?_
        refine XS.icmpNo Xl.here hexec rfl (hb hbytes d7) rfl (ii_ge_f (lt32 (by omega) (by omega))) ?_
        refine XS.aloadN Xl.here hexec rfl (hb hbytes d10) rfl rfl ?_
        refine XS.iloadN Xl.here hexec rfl (hb hbytes d11) rfl ?_
        exact Steps.refl _)
      have c4 : Steps p.tables e below (s₁.setTop (entryFrame m #[.ref b, .int (Int32.ofNat o), .ref d, .int (Int32.ofNat q), .int (Int32.ofNat len)] 7)) (Tl.setTop (mkF m 13 #[.val (.ref b), .val (.int (Int32.ofNat (o + i))), .val (.ref d), .val (.int (Int32.ofNat (q + i))), .val (.int (Int32.ofNat len)), .val (.int (Int32.ofNat i)), z] [.int (cv A (o + i))])) := c3.trans (by
        refine Xl.aget hexec hAl rfl (hA.get (i := o + i) (by omega)) rfl rfl (hb hbytes d12) ?_
        exact Steps.refl _)
      have c5 : Steps p.tables e below (s₁.setTop (entryFrame m #[.ref b, .int (Int32.ofNat o), .ref d, .int (Int32.ofNat q), .int (Int32.ofNat len)] 7)) (Tl.setTop (mkF m 15 #[.val (.ref b), .val (.int (Int32.ofNat (o + i))), .val (.ref d), .val (.int (Int32.ofNat (q + i))), .val (.int (Int32.ofNat len)), .val (.int (Int32.ofNat i)), .val (.int (cv A (o + i)))] [])) := c4.trans (by
        refine XS.istoreS Xl.here hexec rfl (hb hbytes d13) rfl rfl hz ?_
        exact Steps.refl _)
      have c6 : Steps p.tables e below (s₁.setTop (entryFrame m #[.ref b, .int (Int32.ofNat o), .ref d, .int (Int32.ofNat q), .int (Int32.ofNat len)] 7)) (Tl.setTop (mkF m 31 #[.val (.ref b), .val (.int (Int32.ofNat (o + i))), .val (.ref d), .val (.int (Int32.ofNat (q + i))), .val (.int (Int32.ofNat len)), .val (.int (Int32.ofNat i)), .val (.int (cv A (o + i)))] [.int (lo8 (cv A (o + i))), .int (Int32.ofNat (q + i)), .ref d])) := c5.trans (by
        refine XS.iload Xl.here hexec rfl (hb hbytes d15) rfl ?_
        refine sipushV Xl.here hexec rfl 255 (hb hbytes d17) (by decide) ?_
        refine XS.icmpYes Xl.here hexec rfl (pc0 := 20) rfl (hb hbytes d20) rfl (ii_le_t (hp i (by omega))) (by decide) rfl ?_
        refine XS.aloadN Xl.here hexec rfl (hb hbytes d26) rfl rfl ?_
        refine XS.iloadN Xl.here hexec rfl (hb hbytes d27) rfl ?_
        refine XS.iload Xl.here hexec rfl (hb hbytes d28) rfl ?_
        refine i2b Xl.here hexec rfl (hb hbytes d30) rfl ?_
        exact Steps.refl _)
      obtain ⟨T7, X7, p7, st7⟩ := Xl.aput hexec hBk rfl hlt rfl (fits_lo8 (cv A (o + i))) (g := (mkF m 31 #[.val (.ref b), .val (.int (Int32.ofNat (o + i))), .val (.ref d), .val (.int (Int32.ofNat (q + i))), .val (.int (Int32.ofNat len)), .val (.int (Int32.ofNat i)), .val (.int (cv A (o + i)))] [.int (lo8 (cv A (o + i))), .int (Int32.ofNat (q + i)), .ref d])) rfl (rest := []) rfl (hb hbytes d31)
      have c8 : Steps p.tables e below (s₁.setTop (entryFrame m #[.ref b, .int (Int32.ofNat o), .ref d, .int (Int32.ofNat q), .int (Int32.ofNat len)] 7)) (T7.setTop (mkF m 32 #[.val (.ref b), .val (.int (Int32.ofNat (o + i))), .val (.ref d), .val (.int (Int32.ofNat (q + i))), .val (.int (Int32.ofNat len)), .val (.int (Int32.ofNat i)), .val (.int (cv A (o + i)))] [])) := c6.trans (st7 _ (Steps.refl _))
      have c9 : Steps p.tables e below (s₁.setTop (entryFrame m #[.ref b, .int (Int32.ofNat o), .ref d, .int (Int32.ofNat q), .int (Int32.ofNat len)] 7)) (T7.setTop (mkF m 3 #[.val (.ref b), .val (.int (Int32.ofNat (o + i) + 1)), .val (.ref d), .val (.int (Int32.ofNat (q + i) + 1)), .val (.int (Int32.ofNat len)), .val (.int (Int32.ofNat i + 1)), .val (.int (cv A (o + i)))] [])) := c8.trans (by
        refine iincV X7.here hexec rfl 1 (hb hbytes d32) (by decide) rfl rfl ?_
        refine iincV X7.here hexec rfl 1 (hb hbytes d35) (by decide) rfl rfl ?_
        refine iincV X7.here hexec rfl 1 (hb hbytes d38) (by decide) rfl rfl ?_
        refine XS.goto X7.here hexec rfl (pc0 := 41) rfl (hb hbytes d41) (by decide) rfl ?_
        exact Steps.refl _)
      have c10 : Steps p.tables e below (s₁.setTop (entryFrame m #[.ref b, .int (Int32.ofNat o), .ref d, .int (Int32.ofNat q), .int (Int32.ofNat len)] 7)) (T7.setTop (mkF m 3 #[.val (.ref b), .val (.int (Int32.ofNat (o + (i + 1)))), .val (.ref d), .val (.int (Int32.ofNat (q + (i + 1)))), .val (.int (Int32.ofNat len)), .val (.int (Int32.ofNat (i + 1))), .val (.int (cv A (o + i)))] [])) := by
        have := c9
        rw [succ32, succ32, succ32] at this
        exact this
      exact ih (i + 1) (by omega) _ (Or.inr ⟨_, rfl, rfl⟩) T7 _ (by rw [copyLocs_step, ← List.append_assoc]; exact X7) (pl.trans p7) (fl.step (by omega) hlt (by simp)) c10
  obtain ⟨T9, B9, z9, X9, p9, f9, g9⟩ := loop len 0 (by omega) .unset (Or.inl rfl) s₁ B (by simpa [copyLocs] using X0) ⟨hB0.1, fun _ _ => rfl, rfl⟩ (Laid.zero _ _ _) c2
  have c11 : Steps p.tables e below (s₁.setTop (entryFrame m #[.ref b, .int (Int32.ofNat o), .ref d, .int (Int32.ofNat q), .int (Int32.ofNat len)] 7)) (T9.setTop (mkF m 46 #[.val (.ref b), .val (.int (Int32.ofNat (o + len))), .val (.ref d), .val (.int (Int32.ofNat (q + len))), .val (.int (Int32.ofNat len)), .val (.int (Int32.ofNat len)), z9] [.int (Int32.ofNat len)])) := g9.trans (by
    refine XS.iload X9.here hexec rfl (hb hbytes d3) rfl ?_
    refine XS.iload X9.here hexec rfl (hb hbytes d5) rfl ?_
    refine XS.icmpYes X9.here hexec rfl (pc0 := 7) rfl (hb hbytes d7) rfl (ii_ge_t (nlt32 (by omega) (Nat.le_refl _))) (by decide) rfl ?_
    refine XS.iload X9.here hexec rfl (hb hbytes d44) rfl ?_
    exact Steps.refl _)
  exact ⟨T9, some (.int (Int32.ofNat len)), _, _, _, X9, by simp, rfl, rfl, (fun h => by cases h), ⟨rfl, B9, p9.from hh0, f9⟩, fun fs hl => c11.trans (X9.ireturnOut hexec hret rfl (Or.inl rfl) (hb hbytes d46) hl)⟩
end Cmp5
namespace Cmp3
def yN : MethodName := ⟨"java/lang/StringUTF16", "compress", "([CII)[B"⟩
abbrev yB : ByteArray := jdk_52_method_16_code
theorem d0 : decode yB 0 = .ok (.iload_n 2, 1) := by decide +kernel
theorem d1 : decode yB 1 = .ok (.newarray .byte, 2) := by decide +kernel
theorem d3 : decode yB 3 = .ok (.astore_n 3, 1) := by decide +kernel
theorem d4 : decode yB 4 = .ok (.aload_n 0, 1) := by decide +kernel
theorem d5 : decode yB 5 = .ok (.iload_n 1, 1) := by decide +kernel
theorem d6 : decode yB 6 = .ok (.aload_n 3, 1) := by decide +kernel
theorem d7 : decode yB 7 = .ok (.iconst 0, 1) := by decide +kernel
theorem d8 : decode yB 8 = .ok (.iload_n 2, 1) := by decide +kernel
theorem d9 : decode yB 9 = .ok (.invokestatic 115, 3) := by decide +kernel
theorem d12 : decode yB 12 = .ok (.istore 4, 2) := by decide +kernel
theorem d14 : decode yB 14 = .ok (.iload 4, 2) := by decide +kernel
theorem d16 : decode yB 16 = .ok (.iload_n 2, 1) := by decide +kernel
theorem d17 : decode yB 17 = .ok (.if_icmp (.eq) 40, 3) := by decide +kernel
theorem d57 : decode yB 57 = .ok (.aload_n 3, 1) := by decide +kernel
theorem d58 : decode yB 58 = .ok (.areturn, 1) := by decide +kernel
def site : List Cond := [.arrayClass .byte, Cmp5.tab] ++ staticW U16 115 Cmp5.yN
def tab : Cond := tabOf yN yB 6 (some (.array .byte)) site
def P (b : Addr) (A : Cell) (o len : Nat) (args : Array Value) (s : State) : Prop := args = #[.ref b, .int (Int32.ofNat o), .int (Int32.ofNat len)] ∧ Ch b A s ∧ o + len ≤ A.slots.size ∧ len ≤ 536870912 ∧ ∀ i, i < len → ¬ 255 < cv A (o + i)
def E (b : Addr) (A : Cell) (o len : Nat) (r : Option Value) (s u : State) : Prop := NewArr .byte "[B" len (fun j => .int (lo8 (cv A (o + j)))) r s u ∧ u.heap.size = s.heap.size + 1
/-- no char of the range above 255: a new byte[] of their low bytes -/
theorem law (l : Launch) (b : Addr) (A : Cell) (o len : Nat) : Law l yN 3 3 1 18 yB 6 (some (.array .byte)) site (P b A o len) (E b A o len) [] 1 len := by
  refine Law.of_walk (plainFor_of_name (by decide +kernel)) (by decide +kernel) (by decide +kernel) (by decide) (fun _ _ h => by rw [h.1]; rfl) (fun _ U U' hal hh h => ⟨h.1, h.2.1.mv hal hh, h.2.2⟩) (fun r U U' V V' h1 hal h2 h => ⟨NewArr.mv r U U' V V' h1 hal h2 h.1, by rw [h1, h2]; exact h.2⟩) ?_
  intro p e s m args below meth c s₁ X0 hexec hbytes hml hret hlk hnm hown hh0 W hP
  obtain ⟨rfl, hA, l1, l2, hp⟩ := hP
  have a31 := hA.1.2.2.2
  have c1 : Steps p.tables e below (s₁.setTop (entryFrame m #[.ref b, .int (Int32.ofNat o), .int (Int32.ofNat len)] 6)) (s₁.setTop (mkF m 0 #[.val (.ref b), .val (.int (Int32.ofNat o)), .val (.int (Int32.ofNat len)), .unset, .unset, .unset] [])) := entry rfl
  have c2 : Steps p.tables e below (s₁.setTop (entryFrame m #[.ref b, .int (Int32.ofNat o), .int (Int32.ofNat len)] 6)) (s₁.setTop (mkF m 1 #[.val (.ref b), .val (.int (Int32.ofNat o)), .val (.int (Int32.ofNat len)), .unset, .unset, .unset] [.int (Int32.ofNat len)])) := c1.trans (by
    refine XS.iloadN X0.here hexec rfl (hb hbytes d0) rfl ?_
    exact Steps.refl _)
  obtain ⟨T3, B3, X3, ba3, bs3, bv3, bh3, bf3, st3⟩ := X0.anew hexec (atype := .byte) (wk W (.arrayClass .byte)) rfl (by show len * 1 ≤ _; omega) (by omega) (g := (mkF m 1 #[.val (.ref b), .val (.int (Int32.ofNat o)), .val (.int (Int32.ofNat len)), .unset, .unset, .unset] [.int (Int32.ofNat len)])) rfl (hb hbytes d1) (rest := []) rfl (Nat.le_refl _) (by show 0 + len ≤ len; omega)
  rw [hh0] at ba3 st3
  have kp3 : XT.Kept s T3 := (XT.Kept.of_eq hh0).push bh3
  have hA3 := hA.keep X3.warmed.alike (kp3 _ _ hA.1.1)
  have hne : b ≠ s.heap.size := hA.1.ne
  have c4 : Steps p.tables e below (s₁.setTop (entryFrame m #[.ref b, .int (Int32.ofNat o), .int (Int32.ofNat len)] 6)) (T3.setTop (mkF m 3 #[.val (.ref b), .val (.int (Int32.ofNat o)), .val (.int (Int32.ofNat len)), .unset, .unset, .unset] [.ref s.heap.size])) := c2.trans (st3 _ (Steps.refl _))
  have c5 : Steps p.tables e below (s₁.setTop (entryFrame m #[.ref b, .int (Int32.ofNat o), .int (Int32.ofNat len)] 6)) (T3.setTop (mkF m 9 #[.val (.ref b), .val (.int (Int32.ofNat o)), .val (.int (Int32.ofNat len)), .val (.ref s.heap.size), .unset, .unset] [.int (Int32.ofNat len), .int 0, .ref s.heap.size, .int (Int32.ofNat o), .ref b])) := c4.trans (by
    refine XS.astoreN X3.here hexec rfl (hb hbytes d3) rfl rfl rfl ?_
    refine XS.aloadN X3.here hexec rfl (hb hbytes d4) rfl rfl ?_
    refine XS.iloadN X3.here hexec rfl (hb hbytes d5) rfl ?_
    refine XS.aloadN X3.here hexec rfl (hb hbytes d6) rfl rfl ?_
    refine iconstV X3.here hexec rfl 0 (hb hbytes d7) (by decide) ?_
    refine XS.iloadN X3.here hexec rfl (hb hbytes d8) rfl ?_
    exact Steps.refl _)
  obtain ⟨v6, T6, X6, E6, g6⟩ := X3.callS hexec (Cmp5.law l b A s.heap.size B3 o 0 len) hown (wks W (staticW U16 115 Cmp5.yN)) (wk W Cmp5.tab) (W := 0) (Nat.le_of_ble_eq_true rfl) (Nat.le_of_ble_eq_true rfl) (Nat.le_refl _) (by show 0 + len + 0 ≤ len; omega) (g := (mkF m 9 #[.val (.ref b), .val (.int (Int32.ofNat o)), .val (.int (Int32.ofNat len)), .val (.ref s.heap.size), .unset, .unset] [.int (Int32.ofNat len), .int (Int32.ofNat 0), .ref s.heap.size, .int (Int32.ofNat o), .ref b])) rfl (by rw [hml]; rfl) c5 (argsL := [.ref b, .int (Int32.ofNat o), .ref s.heap.size, .int (Int32.ofNat 0), .int (Int32.ofNat len)]) (rest := []) rfl rfl (by show 2 * 0 + 0 ≤ _; decide) (hb hbytes d9) (⟨rfl, hA3, ba3, hne, l1, by rw [bs3]; simp, hp⟩)
  obtain ⟨rfl, B6, p6, f6⟩ := E6
  have c7 : Steps p.tables e below (s₁.setTop (entryFrame m #[.ref b, .int (Int32.ofNat o), .int (Int32.ofNat len)] 6)) (T6.setTop (mkF m 12 #[.val (.ref b), .val (.int (Int32.ofNat o)), .val (.int (Int32.ofNat len)), .val (.ref s.heap.size), .unset, .unset] [.int (Int32.ofNat len)])) := g6
  have c8 : Steps p.tables e below (s₁.setTop (entryFrame m #[.ref b, .int (Int32.ofNat o), .int (Int32.ofNat len)] 6)) (T6.setTop (mkF m 58 #[.val (.ref b), .val (.int (Int32.ofNat o)), .val (.int (Int32.ofNat len)), .val (.ref s.heap.size), .val (.int (Int32.ofNat len)), .unset] [.ref s.heap.size])) := c7.trans (by
    refine XS.istore X6.here hexec rfl (hb hbytes d12) rfl rfl ?_
    refine XS.iload X6.here hexec rfl (hb hbytes d14) rfl ?_
    refine XS.iloadN X6.here hexec rfl (hb hbytes d16) rfl ?_
    refine XS.icmpYes X6.here hexec rfl (pc0 := 17) rfl (hb hbytes d17) rfl (ii_eq_t rfl) (by decide) rfl ?_
    refine XS.aloadN X6.here hexec rfl (hb hbytes d57) rfl rfl ?_
    exact Steps.refl _)
  have X8 := X6.wide (L' := []) (cells' := 1) (slots' := len) (fun x hx hlt => by
    simp only [List.nil_append, copyLocs, List.mem_map, List.mem_range] at hx
    obtain ⟨i, -, rfl⟩ := hx
    exact absurd hlt (Nat.lt_irrefl _)) (Nat.le_refl _) (by omega)
  exact ⟨T6, some (.ref s.heap.size), _, _, _, X8, rfl, rfl, rfl, (fun h => by cases h), ⟨⟨rfl, B6, ba3.like (X3.warmed.alike.symm.trans X6.warmed.alike) p6.1 f6.1 f6.2.1 f6.2.2.1, f6.2.1.trans bv3, by rw [X6.warmed.alike.findClass, f6.1]; exact bf3, by rw [f6.2.2.1, bs3]; simp, fun j hj => by rw [f6.2.2.2 j, if_pos (by omega)]; rfl, kp3.put p6 (Nat.le_refl _)⟩, by rw [p6.2.2, bh3, hh0]; simp⟩, fun fs hl => c8.trans (X8.areturnOut hexec rfl hret rfl (hb hbytes d58) hl)⟩
end Cmp3
namespace CodL
def yN : MethodName := ⟨"java/lang/StringUTF16", "coderFromArrayLen", "([BI)B"⟩
abbrev yB : ByteArray := jdk_52_method_15_code
theorem d0 : decode yB 0 = .ok (.iload_n 1, 1) := by decide +kernel
theorem d1 : decode yB 1 = .ok (.aload_n 0, 1) := by decide +kernel
theorem d2 : decode yB 2 = .ok (.arraylength, 1) := by decide +kernel
theorem d3 : decode yB 3 = .ok (.isub, 1) := by decide +kernel
theorem d4 : decode yB 4 = .ok (.bipush 31, 2) := by decide +kernel
theorem d6 : decode yB 6 = .ok (.iushr, 1) := by decide +kernel
theorem d7 : decode yB 7 = .ok (.i2b, 1) := by decide +kernel
theorem d8 : decode yB 8 = .ok (.ireturn, 1) := by decide +kernel
def site : List Cond := []
def tab : Cond := tabOf yN yB 2 (some .byte) site
def P (d : Addr) (B : Cell) (args : Array Value) (s : State) : Prop := args = #[.ref d, .int (Int32.ofNat B.slots.size)] ∧ Arr .byte d B s
def E (r : Option Value) (s u : State) : Prop := XT.PureE (some (.int 0)) r s u
/-- an array as long as the number of chars: LATIN1 -/
theorem law (l : Launch) (d : Addr) (B : Cell) : Law l yN 2 2 0 0 yB 2 (some .byte) site (P d B) E [] 0 0 := by
  refine Law.of_walk (plainFor_of_name (by decide +kernel)) (by decide +kernel) (by decide +kernel) (by decide) (fun _ _ h => by rw [h.1]; rfl) (fun _ U U' hal hh h => ⟨h.1, h.2.mv hal hh⟩) (fun r U U' V V' h1 hal h2 h => XT.PureE.mv r U U' V V' h1 hal h2 h) ?_
  intro p e s m args below meth c s₁ X0 hexec hbytes hml hret hlk hnm hown hh0 W hP
  obtain ⟨rfl, hB⟩ := hP
  have hB0 := hB.mv X0.warmed.alike hh0
  have c1 : Steps p.tables e below (s₁.setTop (entryFrame m #[.ref d, .int (Int32.ofNat B.slots.size)] 2)) (s₁.setTop (mkF m 0 #[.val (.ref d), .val (.int (Int32.ofNat B.slots.size))] [])) := entry rfl
  have c2 : Steps p.tables e below (s₁.setTop (entryFrame m #[.ref d, .int (Int32.ofNat B.slots.size)] 2)) (s₁.setTop (mkF m 2 #[.val (.ref d), .val (.int (Int32.ofNat B.slots.size))] [.ref d, .int (Int32.ofNat B.slots.size)])) := c1.trans (by
    refine XS.iloadN X0.here hexec rfl (hb hbytes d0) rfl ?_
    refine XS.aloadN X0.here hexec rfl (hb hbytes d1) rfl rfl ?_
    exact Steps.refl _)
  have c3 : Steps p.tables e below (s₁.setTop (entryFrame m #[.ref d, .int (Int32.ofNat B.slots.size)] 2)) (s₁.setTop (mkF m 8 #[.val (.ref d), .val (.int (Int32.ofNat B.slots.size))] [.int (lo8 (ushr (Int32.ofNat B.slots.size - Int32.ofNat B.slots.size) 31))])) := c2.trans (by
    refine X0.alen hexec hB0 rfl rfl (hb hbytes d2) ?_
    refine XS.isub X0.here hexec rfl (hb hbytes d3) rfl ?_
    refine bipushV X0.here hexec rfl 31 (hb hbytes d4) (by decide) ?_
    refine iushr X0.here hexec rfl (hb hbytes d6) rfl ?_
    refine i2b X0.here hexec rfl (hb hbytes d7) rfl ?_
    exact Steps.refl _)
  have e0 : lo8 (ushr (Int32.ofNat B.slots.size - Int32.ofNat B.slots.size) 31) = 0 := by rw [Int32.sub_self]; decide
  rw [e0] at c3
  exact ⟨s₁, some (.int 0), _, _, _, X0, rfl, rfl, rfl, (fun h => by cases h), ⟨rfl, hh0⟩, fun fs hl => c3.trans (X0.ireturnOut hexec hret rfl (Or.inr (Or.inr (Or.inl rfl))) (hb hbytes d8) hl)⟩
end CodL
/-- the String at a is Latin-1 over a new byte[] (the heap's one new cell): the low bytes of the len chars of A from o on; every cell but a is kept -/
def Got (a : Addr) (D : Cell) (fV fC : Field) (A : Cell) (o len : Nat) (r : Option Value) (s u : State) : Prop := r = none ∧ ∃ D' V : Cell, Blank "java/lang/String" a D' u ∧ Same D D' [fV.slot, fC.slot] ∧ D'.slots[fV.slot]? = some (.ref s.heap.size) ∧ D'.slots[fC.slot]? = some (.int 0) ∧ Arr .byte s.heap.size V u ∧ V.vm = .none ∧ u.vm.findClass "[B" = some V.cls ∧ V.slots.size = len ∧ (∀ j, j < len → V.slots[j]? = some (.int (lo8 (cv A (o + j))))) ∧ (∀ (y : Addr) (c : Cell), y ≠ a → s.heap[y]? = some c → u.heap[y]? = some c) ∧ u.heap.size = s.heap.size + 1
theorem Got.mv {a : Addr} {D A : Cell} {fV fC : Field} {o len : Nat} : ∀ r (U U' V V' : State), U'.heap = U.heap → V.vm.Alike V'.vm → V'.heap = V.heap → Got a D fV fC A o len r U V → Got a D fV fC A o len r U' V' :=
  fun r U U' V V' h1 hal h2 ⟨e0, D', X, a1, a2, a3, a4, a5, a6, a7, a8, a9, a10, a11⟩ => ⟨e0, D', X, a1.mv hal h2, a2, by rw [h1]; exact a3, a4, by rw [h1]; exact a5.mv hal h2, a6, by rw [hal.findClass]; exact a7, a8, a9, by rw [h1, h2]; exact a10, by rw [h1, h2]; exact a11⟩
namespace New4
def yN : MethodName := ⟨"java/lang/String", "<init>", "([CIILjava/lang/Void;)V"⟩
abbrev yB : ByteArray := jdk_42_method_149_code
theorem d0 : decode yB 0 = .ok (.aload_n 0, 1) := by decide +kernel
theorem d1 : decode yB 1 = .ok (.invokespecial 1, 3) := by decide +kernel
theorem d4 : decode yB 4 = .ok (.iload_n 3, 1) := by decide +kernel
theorem d5 : decode yB 5 = .ok (.ifCond (.ne) 22, 3) := by decide +kernel
theorem d27 : decode yB 27 = .ok (.getstatic 38, 3) := by decide +kernel
theorem d30 : decode yB 30 = .ok (.ifCond (.eq) 28, 3) := by decide +kernel
theorem d33 : decode yB 33 = .ok (.aload_n 1, 1) := by decide +kernel
theorem d34 : decode yB 34 = .ok (.iload_n 2, 1) := by decide +kernel
theorem d35 : decode yB 35 = .ok (.iload_n 3, 1) := by decide +kernel
theorem d36 : decode yB 36 = .ok (.invokestatic 177, 3) := by decide +kernel
theorem d39 : decode yB 39 = .ok (.astore 5, 2) := by decide +kernel
theorem d41 : decode yB 41 = .ok (.aload_n 0, 1) := by decide +kernel
theorem d42 : decode yB 42 = .ok (.aload 5, 2) := by decide +kernel
theorem d44 : decode yB 44 = .ok (.iload_n 3, 1) := by decide +kernel
theorem d45 : decode yB 45 = .ok (.invokestatic 47, 3) := by decide +kernel
theorem d48 : decode yB 48 = .ok (.putfield 15, 3) := by decide +kernel
theorem d51 : decode yB 51 = .ok (.aload_n 0, 1) := by decide +kernel
theorem d52 : decode yB 52 = .ok (.aload 5, 2) := by decide +kernel
theorem d54 : decode yB 54 = .ok (.putfield 9, 3) := by decide +kernel
theorem d57 : decode yB 57 = .ok (.return_, 1) := by decide +kernel
def site : List Cond := [.fieldLink "java/lang/String" 38 "java/lang/String" "COMPACT_STRINGS" "Z", Cmp3.tab, CodL.tab, .laysFinal "java/lang/String" "java/lang/String" "value" "[B", .fieldLink "java/lang/String" 9 "java/lang/String" "value" "[B", .laysFinal "java/lang/String" "java/lang/String" "coder" "B", .fieldLink "java/lang/String" 15 "java/lang/String" "coder" "B"] ++ objW "java/lang/String" 1 ++ staticW "java/lang/String" 177 Cmp3.yN ++ staticW "java/lang/String" 47 CodL.yN
def tab : Cond := tabOf yN yB 6 none site
def P (a : Addr) (D : Cell) (fV fC : Field) (b : Addr) (A : Cell) (z : Int32) (o len : Nat) (args : Array Value) (s : State) : Prop := args = #[.ref a, .ref b, .int (Int32.ofNat o), .int (Int32.ofNat len), .null] ∧ Blank "java/lang/String" a D s ∧ Found "java/lang/String" "value" "[B" fV s ∧ Found "java/lang/String" "coder" "B" fC s ∧ Ch b A s ∧ StaticIs s "java/lang/String" "COMPACT_STRINGS" "Z" (.int z) ∧ ¬ z = 0 ∧ 0 < len ∧ o + len ≤ A.slots.size ∧ len ≤ 536870912 ∧ ∀ i, i < len → ¬ 255 < cv A (o + i)
def E (a : Addr) (D : Cell) (fV fC : Field) (A : Cell) (o len : Nat) (r : Option Value) (s u : State) : Prop := Got a D fV fC A o len r s u
/-- len > 0, no char of the range above 255: a Latin-1 String of their low bytes -/
theorem law (l : Launch) (a : Addr) (D : Cell) (fV fC : Field) (b : Addr) (A : Cell) (z : Int32) (o len : Nat) : Law l yN 5 4 2 35 yB 6 none site (P a D fV fC b A z o len) (E a D fV fC A o len) [⟨a, fC.slot⟩, ⟨a, fV.slot⟩] 1 len := by
  refine Law.of_walk (plainFor_of_name (by decide +kernel)) (by decide +kernel) (by decide +kernel) (by decide) (fun _ _ h => by rw [h.1]; rfl) (fun _ U U' hal hh h => ⟨h.1, h.2.1.mv hal hh, h.2.2.1.al hal, h.2.2.2.1.al hal, h.2.2.2.2.1.mv hal hh, h.2.2.2.2.2.1.there hal hh, h.2.2.2.2.2.2⟩) (fun r U U' V V' h1 hal h2 h => Got.mv r U U' V V' h1 hal h2 h) ?_
  intro p e s m args below meth c s₁ X0 hexec hbytes hml hret hlk hnm hown hh0 W hP
  obtain ⟨rfl, hB, f1, f2, hA, s1, hz, l0, l1, l2, hp⟩ := hP
  have a31 := hA.1.2.2.2
  have c1 : Steps p.tables e below (s₁.setTop (entryFrame m #[.ref a, .ref b, .int (Int32.ofNat o), .int (Int32.ofNat len), .null] 6)) (s₁.setTop (mkF m 0 #[.val (.ref a), .val (.ref b), .val (.int (Int32.ofNat o)), .val (.int (Int32.ofNat len)), .val .null, .unset] [])) := entry rfl
  have c2 : Steps p.tables e below (s₁.setTop (entryFrame m #[.ref a, .ref b, .int (Int32.ofNat o), .int (Int32.ofNat len), .null] 6)) (s₁.setTop (mkF m 1 #[.val (.ref a), .val (.ref b), .val (.int (Int32.ofNat o)), .val (.int (Int32.ofNat len)), .val .null, .unset] [.ref a])) := c1.trans (by
    refine XS.aloadN X0.here hexec rfl (hb hbytes d0) rfl rfl ?_
    exact Steps.refl _)
  obtain ⟨T3, X3, q3, st3⟩ := X0.oinit hexec hown (wks W (objW "java/lang/String" 1)) (g := (mkF m 1 #[.val (.ref a), .val (.ref b), .val (.int (Int32.ofNat o)), .val (.int (Int32.ofNat len)), .val .null, .unset] [.ref a])) rfl (by rw [hml]; rfl) (rest := []) rfl (hb hbytes d1) (W := 0) (by show 2 * 0 + 0 ≤ _; decide) (Nat.le_of_ble_eq_true rfl) (Nat.le_of_ble_eq_true rfl)
  have hh3 := q3.trans hh0
  have c4 : Steps p.tables e below (s₁.setTop (entryFrame m #[.ref a, .ref b, .int (Int32.ofNat o), .int (Int32.ofNat len), .null] 6)) (T3.setTop (mkF m 27 #[.val (.ref a), .val (.ref b), .val (.int (Int32.ofNat o)), .val (.int (Int32.ofNat len)), .val .null, .unset] [])) := (c2.trans (st3 _ (Steps.refl _))).trans (by
    refine XS.iloadN X3.here hexec rfl (hb hbytes d4) rfl ?_
    refine XS.ifYes X3.here hexec rfl (pc0 := 5) rfl (hb hbytes d5) rfl (i0_ne_t (nz32 (by omega) l0)) (by decide) rfl ?_
    exact Steps.refl _)
  obtain ⟨T5, X5, q5, st5⟩ := X3.sget hexec hown (wk W (.fieldLink "java/lang/String" 38 "java/lang/String" "COMPACT_STRINGS" "Z")) s1 (fun _ _ h => by rw [hh3]; exact h) (g := (mkF m 27 #[.val (.ref a), .val (.ref b), .val (.int (Int32.ofNat o)), .val (.int (Int32.ofNat len)), .val .null, .unset] [])) rfl (hb hbytes d27)
  have hh5 := q5.trans hh3
  have c6 : Steps p.tables e below (s₁.setTop (entryFrame m #[.ref a, .ref b, .int (Int32.ofNat o), .int (Int32.ofNat len), .null] 6)) (T5.setTop (mkF m 30 #[.val (.ref a), .val (.ref b), .val (.int (Int32.ofNat o)), .val (.int (Int32.ofNat len)), .val .null, .unset] [.int z])) := c4.trans (st5 _ (Steps.refl _))
  have c7 : Steps p.tables e below (s₁.setTop (entryFrame m #[.ref a, .ref b, .int (Int32.ofNat o), .int (Int32.ofNat len), .null] 6)) (T5.setTop (mkF m 36 #[.val (.ref a), .val (.ref b), .val (.int (Int32.ofNat o)), .val (.int (Int32.ofNat len)), .val .null, .unset] [.int (Int32.ofNat len), .int (Int32.ofNat o), .ref b])) := c6.trans (by
    refine XS.ifNo X5.here hexec rfl (hb hbytes d30) rfl (i0_eq_f hz) ?_
    refine XS.aloadN X5.here hexec rfl (hb hbytes d33) rfl rfl ?_
    refine XS.iloadN X5.here hexec rfl (hb hbytes d34) rfl ?_
    refine XS.iloadN X5.here hexec rfl (hb hbytes d35) rfl ?_
    exact Steps.refl _)
  obtain ⟨v8, T8, X8, E8, g8⟩ := X5.callS hexec (Cmp3.law l b A o len) hown (wks W (staticW "java/lang/String" 177 Cmp3.yN)) (wk W Cmp3.tab) (W := 0) (Nat.le_of_ble_eq_true rfl) (Nat.le_of_ble_eq_true rfl) (Nat.le_refl _) (by show 0 + len ≤ len; omega) (g := (mkF m 36 #[.val (.ref a), .val (.ref b), .val (.int (Int32.ofNat o)), .val (.int (Int32.ofNat len)), .val .null, .unset] [.int (Int32.ofNat len), .int (Int32.ofNat o), .ref b])) rfl (by rw [hml]; rfl) c7 (argsL := [.ref b, .int (Int32.ofNat o), .int (Int32.ofNat len)]) (rest := []) rfl rfl (by show 2 * 0 + 0 ≤ _; decide) (hb hbytes d36) (⟨rfl, hA.mv X5.warmed.alike hh5, l1, l2, hp⟩)
  obtain ⟨e8, z8⟩ := E8
  obtain ⟨rfl, N, n1, n2, n3, n4, n5, n6⟩ := NewArr.mv _ T5 s _ _ hh5.symm (Vm.Alike.refl _) rfl e8
  rw [hh5] at z8
  have hB1 := hB.keep X8.warmed.alike (n6 _ _ hB.1)
  have hne : s.heap.size ≠ a := (Nat.ne_of_lt (Array.getElem?_eq_some_iff.mp hB.1).1).symm
  have c9 : Steps p.tables e below (s₁.setTop (entryFrame m #[.ref a, .ref b, .int (Int32.ofNat o), .int (Int32.ofNat len), .null] 6)) (T8.setTop (mkF m 39 #[.val (.ref a), .val (.ref b), .val (.int (Int32.ofNat o)), .val (.int (Int32.ofNat len)), .val .null, .unset] [.ref s.heap.size])) := g8
  have c10 : Steps p.tables e below (s₁.setTop (entryFrame m #[.ref a, .ref b, .int (Int32.ofNat o), .int (Int32.ofNat len), .null] 6)) (T8.setTop (mkF m 45 #[.val (.ref a), .val (.ref b), .val (.int (Int32.ofNat o)), .val (.int (Int32.ofNat len)), .val .null, .val (.ref s.heap.size)] [.int (Int32.ofNat N.slots.size), .ref s.heap.size, .ref a])) := by
    have hc : Steps p.tables e below (s₁.setTop (entryFrame m #[.ref a, .ref b, .int (Int32.ofNat o), .int (Int32.ofNat len), .null] 6)) (T8.setTop (mkF m 45 #[.val (.ref a), .val (.ref b), .val (.int (Int32.ofNat o)), .val (.int (Int32.ofNat len)), .val .null, .val (.ref s.heap.size)] [.int (Int32.ofNat len), .ref s.heap.size, .ref a])) := c9.trans (by
      refine XS.astore X8.here hexec rfl (hb hbytes d39) rfl rfl rfl ?_
      refine XS.aloadN X8.here hexec rfl (hb hbytes d41) rfl rfl ?_
      refine XS.aload X8.here hexec rfl (hb hbytes d42) rfl rfl ?_
      refine XS.iloadN X8.here hexec rfl (hb hbytes d44) rfl ?_
      exact Steps.refl _)
    rw [n4]; exact hc
  obtain ⟨v11, T11, X11, E11, g11⟩ := X8.callS hexec (CodL.law l s.heap.size N) hown (wks W (staticW "java/lang/String" 47 CodL.yN)) (wk W CodL.tab) (W := 1) (Nat.le_of_ble_eq_true rfl) (Nat.le_of_ble_eq_true rfl) (Nat.le_refl _) (by show 0 + len + 0 ≤ len; omega) (g := (mkF m 45 #[.val (.ref a), .val (.ref b), .val (.int (Int32.ofNat o)), .val (.int (Int32.ofNat len)), .val .null, .val (.ref s.heap.size)] [.int (Int32.ofNat N.slots.size), .ref s.heap.size, .ref a])) rfl (by rw [hml]; rfl) c10 (argsL := [.ref s.heap.size, .int (Int32.ofNat N.slots.size)]) (rest := [.ref a]) rfl rfl (by show 2 * 0 + (1 + 0) ≤ _; decide) (hb hbytes d45) (⟨rfl, n1⟩)
  obtain ⟨rfl, q11⟩ := E11
  have hB11 := hB1.mv (X8.warmed.alike.symm.trans X11.warmed.alike) q11
  have c12 : Steps p.tables e below (s₁.setTop (entryFrame m #[.ref a, .ref b, .int (Int32.ofNat o), .int (Int32.ofNat len), .null] 6)) (T11.setTop (mkF m 48 #[.val (.ref a), .val (.ref b), .val (.int (Int32.ofNat o)), .val (.int (Int32.ofNat len)), .val .null, .val (.ref s.heap.size)] [.int 0, .ref a])) := g11
  obtain ⟨T13, X13, p13, bl13, sl13, st13⟩ := X11.finit hexec hown (wk W (.fieldLink "java/lang/String" 15 "java/lang/String" "coder" "B")) (Or.inr ⟨_, (wk W (.laysFinal "java/lang/String" "java/lang/String" "coder" "B"))⟩) (Or.inl ⟨rfl, hnm⟩) f2 (Or.inl rfl) hB11 (t := .byte) (by decide +kernel) rfl (g := (mkF m 48 #[.val (.ref a), .val (.ref b), .val (.int (Int32.ofNat o)), .val (.int (Int32.ofNat len)), .val .null, .val (.ref s.heap.size)] [.int 0, .ref a])) rfl (rest := []) rfl (hb hbytes d48)
  have c14 : Steps p.tables e below (s₁.setTop (entryFrame m #[.ref a, .ref b, .int (Int32.ofNat o), .int (Int32.ofNat len), .null] 6)) (T13.setTop (mkF m 54 #[.val (.ref a), .val (.ref b), .val (.int (Int32.ofNat o)), .val (.int (Int32.ofNat len)), .val .null, .val (.ref s.heap.size)] [.ref s.heap.size, .ref a])) := (c12.trans (st13 _ (Steps.refl _))).trans (by
    refine XS.aloadN X13.here hexec rfl (hb hbytes d51) rfl rfl ?_
    refine XS.aload X13.here hexec rfl (hb hbytes d52) rfl rfl ?_
    exact Steps.refl _)
  obtain ⟨T15, X15, p15, bl15, sl15, st15⟩ := X13.finit hexec hown (wk W (.fieldLink "java/lang/String" 9 "java/lang/String" "value" "[B")) (Or.inr ⟨_, (wk W (.laysFinal "java/lang/String" "java/lang/String" "value" "[B"))⟩) (Or.inl ⟨rfl, hnm⟩) f1 (Or.inl rfl) bl13 (t := (.array .byte)) (by decide +kernel) rfl (g := (mkF m 54 #[.val (.ref a), .val (.ref b), .val (.int (Int32.ofNat o)), .val (.int (Int32.ofNat len)), .val .null, .val (.ref s.heap.size)] [.ref s.heap.size, .ref a])) rfl (rest := []) rfl (hb hbytes d54)
  have c16 : Steps p.tables e below (s₁.setTop (entryFrame m #[.ref a, .ref b, .int (Int32.ofNat o), .int (Int32.ofNat len), .null] 6)) (T15.setTop (mkF m 57 #[.val (.ref a), .val (.ref b), .val (.int (Int32.ofNat o)), .val (.int (Int32.ofNat len)), .val .null, .val (.ref s.heap.size)] [])) := c14.trans (st15 _ (Steps.refl _))
  have ap := apart (Or.inr ⟨_, (wk W (.laysFinal "java/lang/String" "java/lang/String" "value" "[B"))⟩) (Or.inr ⟨_, (wk W (.laysFinal "java/lang/String" "java/lang/String" "coder" "B"))⟩) f1 f2 (t₁ := .array .byte) (t₂ := .byte) (by decide +kernel) (by decide +kernel) (by decide)
  have al := X8.warmed.alike.symm.trans X15.warmed.alike
  have n7 : T11.heap[s.heap.size]? = some N := by rw [q11]; exact n1.1
  exact ⟨T15, none, _, _, _, X15, by simp, rfl, by omega, (fun _ => rfl), ⟨rfl, _, N, bl15, ((Same.refl D _).set _ (by simp)).set _ (by simp), sl15, (Cell.slots_setSlot_ne _ ap).trans sl13, n1.keep al (p15.other hne (p13.other hne n7)), n2, by rw [al.findClass]; exact n3, n4, n5, fun y c h1 h2 => p15.other h1 (p13.other h1 (by rw [q11]; exact n6 y c h2)), by rw [p15.2.2, p13.2.2, q11]; exact z8⟩, fun fs hl => c16.trans (X15.returnOut hexec hret (hb hbytes d57) hl)⟩
end New4
namespace New1
def yN : MethodName := ⟨"java/lang/String", "<init>", "([C)V"⟩
abbrev yB : ByteArray := jdk_42_method_3_code
theorem d0 : decode yB 0 = .ok (.aload_n 0, 1) := by decide +kernel
theorem d1 : decode yB 1 = .ok (.aload_n 1, 1) := by decide +kernel
theorem d2 : decode yB 2 = .ok (.iconst 0, 1) := by decide +kernel
theorem d3 : decode yB 3 = .ok (.aload_n 1, 1) := by decide +kernel
theorem d4 : decode yB 4 = .ok (.arraylength, 1) := by decide +kernel
theorem d5 : decode yB 5 = .ok (.aconst_null, 1) := by decide +kernel
theorem d6 : decode yB 6 = .ok (.invokespecial 27, 3) := by decide +kernel
theorem d9 : decode yB 9 = .ok (.return_, 1) := by decide +kernel
def site : List Cond := [New4.tab] ++ initW "java/lang/String" 27 New4.yN
def tab : Cond := tabOf yN yB 2 none site
def P (a : Addr) (D : Cell) (fV fC : Field) (b : Addr) (A : Cell) (z : Int32) (args : Array Value) (s : State) : Prop := args = #[.ref a, .ref b] ∧ Blank "java/lang/String" a D s ∧ Found "java/lang/String" "value" "[B" fV s ∧ Found "java/lang/String" "coder" "B" fC s ∧ Ch b A s ∧ StaticIs s "java/lang/String" "COMPACT_STRINGS" "Z" (.int z) ∧ ¬ z = 0 ∧ 0 < A.slots.size ∧ A.slots.size ≤ 536870912 ∧ ∀ i, i < A.slots.size → ¬ 255 < cv A i
def E (a : Addr) (D : Cell) (fV fC : Field) (A : Cell) (r : Option Value) (s u : State) : Prop := Got a D fV fC A 0 A.slots.size r s u
/-- new String(chars), not empty, no char above 255: a Latin-1 String of their low bytes -/
theorem law (l : Launch) (a : Addr) (D : Cell) (fV fC : Field) (b : Addr) (A : Cell) (z : Int32) : Law l yN 2 1 3 52 yB 2 none site (P a D fV fC b A z) (E a D fV fC A) [⟨a, fC.slot⟩, ⟨a, fV.slot⟩] 1 A.slots.size := by
  refine Law.of_walk (plainFor_of_name (by decide +kernel)) (by decide +kernel) (by decide +kernel) (by decide) (fun _ _ h => by rw [h.1]; rfl) (fun _ U U' hal hh h => ⟨h.1, h.2.1.mv hal hh, h.2.2.1.al hal, h.2.2.2.1.al hal, h.2.2.2.2.1.mv hal hh, h.2.2.2.2.2.1.there hal hh, h.2.2.2.2.2.2⟩) (fun r U U' V V' h1 hal h2 h => Got.mv r U U' V V' h1 hal h2 h) ?_
  intro p e s m args below meth c s₁ X0 hexec hbytes hml hret hlk hnm hown hh0 W hP
  obtain ⟨rfl, hB, f1, f2, hA, s1, hz, l0, l2, hp⟩ := hP
  have c1 : Steps p.tables e below (s₁.setTop (entryFrame m #[.ref a, .ref b] 2)) (s₁.setTop (mkF m 0 #[.val (.ref a), .val (.ref b)] [])) := entry rfl
  have c2 : Steps p.tables e below (s₁.setTop (entryFrame m #[.ref a, .ref b] 2)) (s₁.setTop (mkF m 6 #[.val (.ref a), .val (.ref b)] [.null, .int (Int32.ofNat A.slots.size), .int 0, .ref b, .ref a])) := c1.trans (by
    refine XS.aloadN X0.here hexec rfl (hb hbytes d0) rfl rfl ?_
    refine XS.aloadN X0.here hexec rfl (hb hbytes d1) rfl rfl ?_
    refine iconstV X0.here hexec rfl 0 (hb hbytes d2) (by decide) ?_
    refine XS.aloadN X0.here hexec rfl (hb hbytes d3) rfl rfl ?_
    refine X0.alen hexec (hA.1.mv X0.warmed.alike hh0) rfl rfl (hb hbytes d4) ?_
    refine XS.aconstNull X0.here hexec rfl (hb hbytes d5) ?_
    exact Steps.refl _)
  obtain ⟨v3, T3, X3, E3, g3⟩ := X0.callN hexec (New4.law l a D fV fC b A z 0 A.slots.size) rfl hown (wks W (initW "java/lang/String" 27 New4.yN)) (W New4.tab (by simp only [site, List.mem_cons, List.mem_append, true_or, or_true])) (W := 0) (Nat.le_of_ble_eq_true rfl) (Nat.le_of_ble_eq_true rfl) (Nat.le_refl _) (by show 0 + A.slots.size ≤ A.slots.size; omega) (g := (mkF m 6 #[.val (.ref a), .val (.ref b)] [.null, .int (Int32.ofNat A.slots.size), .int (Int32.ofNat 0), .ref b, .ref a])) rfl (by rw [hml]; rfl) c2 (argsL := [.ref b, .int (Int32.ofNat 0), .int (Int32.ofNat A.slots.size), .null]) (rest := []) rfl rfl (by show 2 * 0 + 0 ≤ _; decide) (hb hbytes d6) (⟨rfl, hB.mv X0.warmed.alike hh0, f1.al X0.warmed.alike, f2.al X0.warmed.alike, hA.mv X0.warmed.alike hh0, s1.there X0.warmed.alike hh0, hz, l0, by omega, l2, fun i hi => by rw [Nat.zero_add]; exact hp i hi⟩)
  have e0 := Got.mv _ s₁ s _ _ hh0.symm (Vm.Alike.refl _) rfl E3
  obtain rfl := e0.1
  have c4 : Steps p.tables e below (s₁.setTop (entryFrame m #[.ref a, .ref b] 2)) (T3.setTop (mkF m 9 #[.val (.ref a), .val (.ref b)] [])) := g3
  exact ⟨T3, none, _, _, _, X3, by simp, rfl, by omega, (fun _ => rfl), e0, fun fs hl => c4.trans (X3.returnOut hexec hret (hb hbytes d9) hl)⟩
theorem pays {l : Launch} {R : Room} {p : Program} {e : Env} {below : List Frame} {s : State} {sargs : Array Value} {len W : Nat} (a : Addr) (D : Cell) (fV fC : Field) (b : Addr) (A : Cell) (z : Int32) (htab : tab.before sargs s = true) (hfr : 4 ≤ R.frames) (hlo : W + 65 ≤ R.locals) :
    Back l R p e below s sargs yN len W (fun A₁ a₁ => A₁.cells + 1 ≤ R.cells ∧ A₁.slots + A.slots.size ≤ R.slots ∧ P a D fV fC b A z a₁ A₁.U) (fun A₁ _ v₁ B₁ => E a D fV fC A v₁ A₁.U B₁.U ∧ B₁.locs = A₁.locs ++ [⟨a, fC.slot⟩, ⟨a, fV.slot⟩] ∧ B₁.cells = A₁.cells + 1 ∧ B₁.slots = A₁.slots + A.slots.size) :=
  (law l a D fV fC b A z).pays htab hfr (by omega)
end New1
/-- the byte, read back as charAt reads it, is the char -/
theorem lo8_mask {x : Int32} (h0 : ¬ x < 0) (h1 : ¬ 255 < x) : lo8 x &&& 255 = x := by
  have t : ∀ k : Fin 256, lo8 (Int32.ofNat k.val) &&& 255 = Int32.ofNat k.val := by decide +kernel
  rw [Int32.lt_iff_toInt_lt] at h0 h1
  have e0 : (0 : Int32).toInt = 0 := rfl
  have e1 : (255 : Int32).toInt = 255 := rfl
  obtain ⟨k, hk⟩ : ∃ k : Nat, x.toInt = k := ⟨x.toInt.toNat, by omega⟩
  have hx : x = Int32.ofNat k := Int32.toInt_inj.mp (by rw [hk, Int32.toInt_ofNat_small (by omega)])
  rw [hx]
  exact t ⟨k, by omega⟩
end StrChars
namespace StrChars.Road
open Jvm Sem ClassFile Op Lib Jvm.Stand Jvm.Free Jvm.Free.XT
open Jvm.Lib.Cold (StaticIs)
abbrev ST : String := "java/lang/String"
/-- every table word that New1's law asks, flat -/
abbrev words : List Jvm.Cond := [.code New1.yN New1.yB 2 none, .initialized ST, .methodLink ST 27 New4.yN, .instanceMethod New4.yN,
  .code New4.yN New4.yB 6 none, .fieldLink ST 38 ST "COMPACT_STRINGS" "Z", .laysFinal ST ST "value" "[B", .fieldLink ST 9 ST "value" "[B", .laysFinal ST ST "coder" "B", .fieldLink ST 15 ST "coder" "B",
  .methodLink ST 1 Lib.objectInit, .instanceMethod Lib.objectInit, .code Lib.objectInit ⟨#[0xb1]⟩ 1 none, .methodLink ST 177 Cmp3.yN, .static Cmp3.yN, .methodLink ST 47 CodL.yN, .static CodL.yN,
  .code Cmp3.yN Cmp3.yB 6 (some (.array .byte)), .initialized U16, .arrayClass .byte, .methodLink U16 115 Cmp5.yN, .static Cmp5.yN, .code Cmp5.yN Cmp5.yB 7 (some .int), .code CodL.yN CodL.yB 2 (some .byte)]
theorem tab_of {a : Array Value} {s : State} (h : ∀ w ∈ words, w.before a s = true) : New1.tab.before a s = true := by
  have h5 : Cmp5.tab.before a s = true := unparts (wk h (.code Cmp5.yN Cmp5.yB 7 (some .int))) (wks h (.initialized Cmp5.yN.cls :: Cmp5.site))
  have hc : CodL.tab.before a s = true := unparts (wk h (.code CodL.yN CodL.yB 2 (some .byte))) (wks h (.initialized CodL.yN.cls :: CodL.site))
  have q5 : ∀ w ∈ Cmp5.tab :: words, w.before a s = true := fun w hw => (List.mem_cons.mp hw).elim (fun e => e ▸ h5) (h w)
  have h3 : Cmp3.tab.before a s = true := unparts (wk q5 (.code Cmp3.yN Cmp3.yB 6 (some (.array .byte)))) (wks q5 (.initialized Cmp3.yN.cls :: Cmp3.site))
  have q3 : ∀ w ∈ Cmp3.tab :: CodL.tab :: words, w.before a s = true := fun w hw => (List.mem_cons.mp hw).elim (fun e => e ▸ h3) fun hw => (List.mem_cons.mp hw).elim (fun e => e ▸ hc) (h w)
  have h4 : New4.tab.before a s = true := unparts (wk q3 (.code New4.yN New4.yB 6 none)) (wks q3 (.initialized New4.yN.cls :: New4.site))
  have q4 : ∀ w ∈ New4.tab :: words, w.before a s = true := fun w hw => (List.mem_cons.mp hw).elim (fun e => e ▸ h4) (h w)
  exact unparts (wk q4 (.code New1.yN New1.yB 2 none)) (wks q4 (.initialized New1.yN.cls :: New1.site))
/-- the words ride from the start Z to the walk's own state -/
theorem moved {Z s : State} {a0 args : Array Value} (hZ : Z.Warmed39 s.vm) (hw : ∀ d ∈ words, d.before a0 Z = true) : ∀ d ∈ words, d.before args s = true := fun d hd => by
  have q := hw d hd
  have t : ∀ d ∈ words, d = .arrayClass .byte ∨ (d.onTables && d.keepsFace) = true := by decide +kernel
  rcases t d hd with rfl | t
  · exact RoadKit.mvA hZ q
  · exact RoadKit.mv hZ q t
/-- WHAT COMES BACK, over the tables of the start Z: h the heap at the call, h' behind it -/
def Q (Z : State) (x : Addr) (A : Cell) (h : Heap) (v : Option Value) (h' : Heap) (L : List Loc) : Prop := v = none ∧ (∀ y ∈ L, y.base = x) ∧ RoadKit.Keep h h' [x] ∧ h'.size = h.size + 1 ∧ RoadKit.Exa Z h' x ST ∧ RoadKit.Fld Z h' x ST "value" "[B" (.ref h.size) ∧ RoadKit.Fld Z h' x ST "coder" "B" (.int 0) ∧
  (∃ V : Cell, RoadKit.Arr Z h' h.size V .byte ∧ V.vm = .none ∧ Z.vm.findClass "[B" = some V.cls ∧ V.slots.size = A.slots.size ∧ ∀ j, j < A.slots.size → V.slots[j]? = some (.int (lo8 (cv A j)))) ∧
  ∀ (O n d : String) (w : Value), RoadKit.Fld Z h x O n d w → RoadKit.slotOf Z O n d ≠ RoadKit.slotOf Z ST "value" "[B" → RoadKit.slotOf Z O n d ≠ RoadKit.slotOf Z ST "coder" "B" → RoadKit.Fld Z h' x O n d w
/-- **new String(chars) AT A CALL, IN THE ROAD'S FORM**: for specialBack behind newO: x the fresh String, b the char[] with the cell A -/
theorem back {p : Program} {l : Launch} {e : Env} {R : Room} {s : State} {args : Array Value} {below : List Frame} {len W : Nat} {Z : State} {a0 : Array Value} {h : Heap} (hZ : Z.Warmed39 s.vm) (hw : ∀ d ∈ words, d.before a0 Z = true) {kI : Nat} (wi : (Jvm.Cond.instantiable ST kI).before a0 Z = true)
    {x b : Addr} {A : Cell} {z : Int32} {v0 c0 : Value} (E : RoadKit.Exa Z h x ST) (V : RoadKit.Fld Z h x ST "value" "[B" v0) (C : RoadKit.Fld Z h x ST "coder" "B" c0) (K : RoadKit.Arr Z h b A .char) (hty : Typed .char A) (S : RoadKit.Sta Z h ST "COMPACT_STRINGS" "Z" (.int z)) (hz : ¬ z = 0)
    (l0 : 0 < A.slots.size) (l2 : A.slots.size ≤ 536870912) (hp : ∀ i, i < A.slots.size → ¬ 255 < cv A i) (hfr : 4 ≤ R.frames) (hlo : W + 65 ≤ R.locals) :
    Back l R p e below s args New1.yN len W (fun P a => a = #[.ref x, .ref b] ∧ P.U.heap = h ∧ P.cells + 1 ≤ R.cells ∧ P.slots + A.slots.size ≤ R.slots)
      (fun P _ v B => ∃ L, Q Z x A h v B.U.heap L ∧ B.locs = P.locs ++ L ∧ B.cells = P.cells + 1 ∧ B.slots = P.slots + A.slots.size) := by
  intro m meth c P g ig mk a X hg hsize hdg hW hn hp'
  obtain ⟨rfl, rfl, r1, r2⟩ := hp'
  have al : Z.vm.Alike P.U.vm := hZ.alike.trans X.warmed.alike
  obtain ⟨D, cfV, kV, iV, fV, hD, gV, stV, knV, obV, asV, slV⟩ := id V
  obtain ⟨D', cfC, kC, iC, fC, hD', gC, stC, -, -, asC, slC⟩ := id C
  cases hD.symm.trans hD'
  obtain ⟨D2, kD, e1, e2, e3, e4, e5⟩ := id E
  cases hD.symm.trans e1
  obtain ⟨c2, k2, i1, i2, i3, -⟩ := Cond.instantiable_spec wi
  cases e2.symm.trans i1
  cases e3.symm.trans i2
  obtain ⟨kU, u1, u2⟩ := al.2.2 _ _ e3
  have hB : Blank ST x D P.U := ⟨hD, ⟨knV, fun q hq => by rw [hq] at obV; cases obV⟩, by rw [al.findClass]; exact e2, kU, u1, by rw [u2]; exact i3, by rw [u2]; exact e5 i3⟩
  have F1 : Found ST "value" "[B" fV P.U := ⟨SBG.found_only al ⟨cfV, kV, iV, gV⟩, stV⟩
  have F2 : Found ST "coder" "B" fC P.U := ⟨SBG.found_only al ⟨cfC, kC, iC, gC⟩, stC⟩
  have hA : Ch b A P.U := ⟨⟨K.1, State.isArrayOf_alike al K.2.1, K.2.2, by omega⟩, hty⟩
  have hS : StaticIs P.U ST "COMPACT_STRINGS" "Z" (.int z) := by
    obtain ⟨cfS, iS, kS, fS, st, cS, t1, t2, t3, t4, t5, t6, t7⟩ := S
    exact StaticIs.there (s := { Z with heap := P.U.heap }) ⟨cfS, iS, kS, fS, st, cS, t1, t2, t3, t4, t5, (fun q => by rw [q] at t6; cases t6), t7⟩ al rfl
  obtain ⟨v, B, X', ⟨⟨hv, E', V', q1, q2, q3, q4, q5, q6, q7, q8, q9, q10, q11⟩, hl, hc, hs⟩, st⟩ := New1.pays x D fV fC b A z (tab_of (moved hZ hw)) hfr hlo m meth c P g ig mk _ X hg hsize hdg hW hn ⟨r1, r2, rfl, hB, F1, F2, hA, hS, hz, l0, l2, hp⟩
  have al' : Z.vm.Alike B.U.vm := hZ.alike.trans X'.warmed.alike
  have hsz : E'.slots.size = D.slots.size := by
    obtain ⟨-, -, -, kB, w1, w2, w3⟩ := q1
    obtain ⟨kB', y1, y2⟩ := al'.2.2 _ _ e3
    rw [q2.2.1] at w1
    cases w1.symm.trans y1
    rw [w3, e5 i3, y2]
  refine ⟨v, B, X', ⟨_, ⟨hv, ?_, ⟨by omega, fun y cy hy hn' => q10 y cy (by simpa using hn') hy, fun y cy hy => ?_⟩, q11, ⟨E', _, q1.1, by rw [q2.2.1]; exact e2, by rw [q2.2.1]; exact e3, by rw [q2.1]; exact obV, fun _ => by rw [hsz]; exact e5 i3⟩,
    ⟨E', cfV, kV, iV, fV, q1.1, gV, stV, by rw [q2.1]; exact knV, by rw [q2.1]; exact obV, by rw [q2.2.1]; exact asV, q3⟩, ⟨E', cfC, kC, iC, fC, q1.1, gC, stC, by rw [q2.1]; exact knV, by rw [q2.1]; exact obV, by rw [q2.2.1]; exact asC, q4⟩,
    ⟨V', ⟨q5.1, State.isArrayOf_alike al'.symm q5.2.1, q5.2.2.1⟩, q6, by rw [← al'.findClass]; exact q7, q8, fun j hj => by have := q9 j hj; rwa [Nat.zero_add] at this⟩, fun O n d w F n1 n2 => ?_⟩, hl, hc, hs⟩, st⟩
  · intro y hy
    simp only [List.mem_cons, List.not_mem_nil, or_false] at hy
    rcases hy with rfl | rfl <;> rfl
  · by_cases q : y = x
    · subst q
      cases hD.symm.trans hy
      exact ⟨E', q1.1, q2.2.1, q2.1, hsz⟩
    · exact ⟨cy, q10 y cy q hy, rfl, rfl, rfl⟩
  · obtain ⟨D3, cf, k, i, f, g1, g2, g3, g4, g5, g6, g7⟩ := F
    cases hD.symm.trans g1
    simp only [RoadKit.slotOf, g2, gV, gC, Option.map_some, Option.getD_some] at n1 n2
    exact ⟨E', cf, k, i, f, q1.1, g2, g3, by rw [q2.1]; exact g4, by rw [q2.1]; exact g5, by rw [q2.2.1]; exact g6, by rw [q2.2.2 f.slot (by simp [n1, n2])]; exact g7⟩
end StrChars.Road
namespace StrChars.Road
open Jvm Sem ClassFile Op Lib Jvm.Stand Jvm.Free Jvm.Free.XT
/-- WHAT COMES BACK, the byte[] as a list of values -/
def QA (Z : State) (x : Addr) (zn : Int32) (cs : List Int32) (h : Heap) (v : Option Value) (h' : Heap) (L : List Loc) : Prop := v = none ∧ (∀ y ∈ L, y.base = x) ∧ RoadKit.Keep h h' [x] ∧ h'.size = h.size + 1 ∧ RoadKit.Exa Z h' x ST ∧ RoadKit.Fld Z h' x ST "value" "[B" (.ref h.size) ∧ RoadKit.Fld Z h' x ST "coder" "B" (.int 0) ∧
  (∃ kb, Z.vm.findClass "[B" = some kb ∧ RoadKit.Arv Z h' h.size kb .byte zn (cs.map fun c => .int (lo8 c)) (.int 0)) ∧
  ∀ (O n d : String) (w : Value), RoadKit.Fld Z h x O n d w → RoadKit.slotOf Z O n d ≠ RoadKit.slotOf Z ST "value" "[B" → RoadKit.slotOf Z O n d ≠ RoadKit.slotOf Z ST "coder" "B" → RoadKit.Fld Z h' x O n d w
/-- **new String(chars) AT A CALL, THE ARRAYS AS LISTS**: the char[] at b holds cs, not empty, no char above 255 -/
theorem backArv {p : Program} {l : Launch} {e : Env} {R : Room} {s : State} {args : Array Value} {below : List Frame} {len W : Nat} {Z : State} {a0 : Array Value} {h : Heap} (hZ : Z.Warmed39 s.vm) (hw : ∀ d ∈ words, d.before a0 Z = true) {kI : Nat} (wi : (Jvm.Cond.instantiable ST kI).before a0 Z = true)
    {x b : Addr} {k : ClassId} {zn z : Int32} {cs : List Int32} {dv v0 c0 : Value} (E : RoadKit.Exa Z h x ST) (V : RoadKit.Fld Z h x ST "value" "[B" v0) (C : RoadKit.Fld Z h x ST "coder" "B" c0) (K : RoadKit.Arv Z h b k .char zn (cs.map Value.int) dv) (S : RoadKit.Sta Z h ST "COMPACT_STRINGS" "Z" (.int z)) (hz : ¬ z = 0)
    (hlen : zn.toNatClampNeg = cs.length) (h0 : 0 < cs.length) (hbig : cs.length ≤ 536870912) (hall : ∀ c ∈ cs, ¬ 255 < c) (hfr : 4 ≤ R.frames) (hlo : W + 65 ≤ R.locals) :
    Back l R p e below s args New1.yN len W (fun P a => a = #[.ref x, .ref b] ∧ P.U.heap = h ∧ P.cells + 1 ≤ R.cells ∧ P.slots + cs.length ≤ R.slots)
      (fun P _ v B => ∃ L, QA Z x zn cs h v B.U.heap L ∧ B.locs = P.locs ++ L ∧ B.cells = P.cells + 1 ∧ B.slots = P.slots + cs.length) := by
  obtain ⟨A, K1, K2, K3, K4, K5, K6⟩ := K
  have e : A.slots.size = cs.length := K3.trans hlen
  have hat : ∀ (i : Nat) (hi : i < cs.length), A.slots[i]? = some (.int cs[i]) := fun i hi => by rw [K5 i (by omega)]; simp [List.getD_eq_getElem?_getD, hi]
  have hcv : ∀ (i : Nat) (hi : i < cs.length), cv A i = cs[i] := fun i hi => by unfold cv; rw [hat i hi]
  have hty : Typed .char A := fun i v hv => by
    have hi : i < A.slots.size := (Array.getElem?_eq_some_iff.mp hv).1
    have q := K5 i hi
    rw [hv] at q
    rw [Option.some.inj q]
    exact K6 i hi
  refine Back.mono (back hZ hw wi E V C K1 hty S hz (by omega) (by omega) (fun i hi => by rw [hcv i (by omega)]; exact hall _ (List.getElem_mem _)) hfr hlo) (fun P a hp => ⟨hp.1, hp.2.1, hp.2.2.1, by rw [e]; exact hp.2.2.2⟩) (fun P a v B hp hq => ?_)
  obtain ⟨L, ⟨q1, q2, q3, q4, q5, q6, q7, ⟨V', v1, v2, v3, v4, v5⟩, q9⟩, hl, hc, hs⟩ := hq
  refine ⟨L, ⟨q1, q2, q3, q4, q5, q6, q7, ⟨V'.cls, v3, V', v1, rfl, by rw [v4, e, hlen], K4, fun i hi => ?_, fun i hi => ?_⟩, q9⟩, hl, hc, by rw [hs, e]⟩
  · have hi' : i < cs.length := by omega
    rw [v5 i (by omega), hcv i hi']; simp [List.getD_eq_getElem?_getD, hi']
  · have hi' : i < cs.length := by omega
    simp only [List.getD_eq_getElem?_getD, List.getElem?_map, List.getElem?_eq_getElem hi', Option.map_some, Option.getD_some]
    exact fits_lo8 _
end StrChars.Road
namespace StrChars.Road
open Jvm Sem ClassFile Op Lib Jvm.Stand Jvm.Free Jvm.Free.XT
/-- WHAT COMES BACK, in the writer's own shape -/
def QV (Z : State) (x : Addr) (N : Int32) (bs : List Int32) (h : Heap) (n0 : Nat) (v : Option Value) (h' : Heap) (L : List Loc) : Prop := v = none ∧ RoadKit.Fr n0 L ∧ RoadKit.Keep h h' [x] ∧ RoadKit.Exa Z h' x ST ∧ RoadKit.Fld Z h' x ST "coder" "B" (.int 0) ∧
  ∃ (t : Addr) (kb : ClassId), n0 ≤ t ∧ h.size ≤ t ∧ ¬ t = x ∧ RoadKit.Fld Z h' x ST "value" "[B" (.ref t) ∧ RoadKit.Arv Z h' t kb .byte N (bs.map Value.int) (.int 0)
/-- **new String(chars) AT A CALL, FOR THE WRITER**: a char[] of n known ints, each 0 to 255 -/
theorem backV {p : Program} {l : Launch} {e : Env} {R : Room} {s : State} {args : Array Value} {below : List Frame} {len W : Nat} {Z : State} {a0 : Array Value} {h : Heap} (hZ : Z.Warmed39 s.vm) (hw : ∀ d ∈ words, d.before a0 Z = true) {kI : Nat} (wi : (Jvm.Cond.instantiable ST kI).before a0 Z = true)
    {x b : Addr} {kC : ClassId} {cs bs : List Int32} {d v0 c0 : Value} {z N : Int32} {n n0 : Nat} (hx0 : n0 ≤ x) (hh0 : n0 ≤ h.size) (E : RoadKit.Exa Z h x ST) (V : RoadKit.Fld Z h x ST "value" "[B" v0) (C : RoadKit.Fld Z h x ST "coder" "B" c0) (K : RoadKit.Arv Z h b kC .char N (cs.map Value.int) d) (S : RoadKit.Sta Z h ST "COMPACT_STRINGS" "Z" (.int z)) (hz : ¬ z = 0)
    (hn : cs.length = n) (hN : N = Int32.ofNat n) (l0 : 0 < n) (l2 : n ≤ 4000) (hp : ∀ c ∈ cs, ¬ c < 0 ∧ ¬ (255 : Int32) < c) (hb : bs = cs.map (fun c => c.toInt8.toInt32)) (hfr : 4 ≤ R.frames) (hlo : W + 65 ≤ R.locals) :
    Back l R p e below s args (⟨"java/lang/String", "<init>", "([C)V"⟩ : MethodName) len W (fun P a => a = #[.ref x, .ref b] ∧ P.U.heap = h ∧ P.cells + 1 ≤ R.cells ∧ P.slots + n ≤ R.slots)
      (fun P _ v B => ∃ L, QV Z x N bs h n0 v B.U.heap L ∧ B.locs = P.locs ++ L ∧ B.cells = P.cells + 1 ∧ B.slots = P.slots + n) := by
  subst hn hN hb
  refine Back.mono (backArv hZ hw wi E V C K S hz (n32 (by omega)) l0 (by omega) (fun c hc => (hp c hc).2) hfr hlo) (fun P a hp => hp) (fun P a v B hp hq => ?_)
  obtain ⟨L, ⟨q1, q2, q3, q4, q5, q6, q7, ⟨kb, v1, v2⟩, q9⟩, hl, hc, hs⟩ := hq
  exact ⟨L, ⟨q1, fun y hy => by rw [q2 y hy]; exact hx0, q3, q5, q7, h.size, kb, hh0, Nat.le_refl _, Nat.ne_of_gt E.lt, q6, by rw [List.map_map]; exact v2⟩, hl, hc, hs⟩
end StrChars.Road
namespace StrChars
open Jvm Sem ClassFile Op Lib Jvm.Stand Jvm.Free.XT Jvm.Free.ALB Jvm.Free.JM Jvm.Free
open Jvm.Lib.Cold (StaticIs)
def hi8 (x : Int32) : Int32 := lo8 (x >>> ((8 : Int32) &&& 31))
/-- what StringUTF16.getChar makes of two bytes -/
def pairCh (u v : Int32) : Int32 := (((u &&& 255) <<< ((0 : Int32) &&& 31)) ||| ((v &&& 255) <<< ((8 : Int32) &&& 31))).toUInt32.toUInt16.toUInt32.toInt32
theorem lo8_and (x : Int32) : (lo8 x &&& 255).toBitVec.toNat = x.toBitVec.toNat % 256 := by
  have h : (lo8 x).toBitVec = (x.toBitVec.signExtend 8).signExtend 32 := by rw [lo8, Int8.toBitVec_toInt32, Int32.toBitVec_toInt8]
  rw [Int32.toBitVec_and, BitVec.toNat_and, h]
  have e : ((x.toBitVec.signExtend 8).signExtend 32).toNat % 256 = x.toBitVec.toNat % 256 := by
    rw [BitVec.toNat_signExtend]
    have hlt := x.toBitVec.isLt
    simp only [BitVec.toNat_setWidth, BitVec.toNat_signExtend]
    split <;> split <;> omega
  rw [← e]
  exact Nat.and_two_pow_sub_one_eq_mod _ 8
theorem pair_says {c : Int32} (h0 : ¬ c < 0) (h1 : ¬ 65535 < c) : pairCh (lo8 c) (hi8 c) = c := by
  rw [Int32.lt_iff_toInt_lt] at h0 h1
  have e0 : (0 : Int32).toInt = 0 := rfl
  have e1 : (65535 : Int32).toInt = 65535 := rfl
  have hc : c.toInt = c.toBitVec.toNat := by
    have := c.toBitVec.isLt
    have e : c.toInt = c.toBitVec.toInt := rfl
    rw [e] at h0 h1
    rw [e]
    rw [BitVec.toInt_eq_toNat_cond] at h0 h1 ⊢
    split at h0 <;> split <;> omega
  have hn : c.toBitVec.toNat < 65536 := by omega
  have a1 := lo8_and c
  have a2 : (hi8 c &&& 255).toBitVec.toNat = c.toBitVec.toNat / 256 := by
    rw [hi8, lo8_and]
    have e : ((8 : Int32) &&& 31) = 8 := by decide
    rw [e, Int32.toBitVec_shiftRight]
    have e2 : ((8 : Int32).toBitVec.smod 32) = 8#32 := by decide
    rw [e2, BitVec.sshiftRight_eq', BitVec.toNat_sshiftRight_of_msb_false (by rw [BitVec.msb_eq_false_iff_two_mul_lt]; omega)]
    show c.toBitVec.toNat >>> 8 % 256 = _
    rw [Nat.shiftRight_eq_div_pow]
    omega
  unfold pairCh
  apply Int32.toBitVec_inj.mp
  apply BitVec.eq_of_toNat_eq
  have f0 : ((0 : Int32) &&& 31) = 0 := by decide
  have f8 : ((8 : Int32) &&& 31) = 8 := by decide
  rw [f0, f8]
  have g : (((lo8 c &&& 255) <<< (0 : Int32)) ||| ((hi8 c &&& 255) <<< (8 : Int32))).toBitVec.toNat = c.toBitVec.toNat := by
    rw [Int32.toBitVec_or, Int32.toBitVec_shiftLeft, Int32.toBitVec_shiftLeft]
    have s0 : ((0 : Int32).toBitVec.smod 32) = 0#32 := by decide
    have s8 : ((8 : Int32).toBitVec.smod 32) = 8#32 := by decide
    rw [s0, s8, BitVec.toNat_or]
    simp only [BitVec.shiftLeft_eq', BitVec.toNat_shiftLeft, a1, a2]
    show (c.toBitVec.toNat % 256) <<< 0 % 2 ^ 32 ||| (c.toBitVec.toNat / 256) <<< 8 % 2 ^ 32 = _
    rw [Nat.shiftLeft_zero, Nat.mod_eq_of_lt (show c.toBitVec.toNat % 256 < 2 ^ 32 by omega), Nat.mod_eq_of_lt (show (c.toBitVec.toNat / 256) <<< 8 < 2 ^ 32 by rw [Nat.shiftLeft_eq]; omega), Nat.or_comm, ← Nat.shiftLeft_add_eq_or_of_lt (by omega), Nat.shiftLeft_eq]
    omega
  show BitVec.toNat (((((lo8 c &&& 255) <<< (0 : Int32)) ||| ((hi8 c &&& 255) <<< (8 : Int32))).toBitVec.setWidth 16).setWidth 32) = _
  rw [BitVec.toNat_setWidth, BitVec.toNat_setWidth, g]
  omega
end StrChars
namespace StrChars
open Jvm Sem ClassFile Op Lib Jvm.Stand Jvm.Free.XT Jvm.Free.ALB Jvm.Free.JM Jvm.Free
open Jvm.Lib.Cold (StaticIs)
/-- the array's cell V codes the n chars f 0 .. f (n - 1) by the coder cd, as the JDK does: coder 1 just where some char is above 255 -/
def Cod (cd : Int32) (n : Nat) (f : Nat → Int32) (V : Cell) : Prop := (cd = 0 ∧ V.slots.size = n ∧ ∀ j, j < n → V.slots[j]? = some (.int (lo8 (f j))) ∧ ¬ 255 < f j) ∨ (cd = 1 ∧ V.slots.size = 2 * n ∧ (∀ j, j < n → V.slots[2 * j]? = some (.int (lo8 (f j))) ∧ V.slots[2 * j + 1]? = some (.int (hi8 (f j)))) ∧ ∃ j, j < n ∧ 255 < f j)
/-- **x is a String of the n chars f 0 .. f (n - 1)**, Latin-1 or UTF-16; its array at t has the cell V -/
def Txt (x t : Addr) (V : Cell) (cd : Int32) (n : Nat) (f : Nat → Int32) (U : State) : Prop := Exact "java/lang/String" x U ∧ Has x "java/lang/String" "value" "[B" (.ref t) U ∧ Has x "java/lang/String" "coder" "B" (.int cd) U ∧ XT.Arr .byte t V U ∧ Cod cd n f V ∧ ∀ j, j < n → ¬ f j < 0 ∧ ¬ 65535 < f j
theorem Txt.mv {x t : Addr} {V : Cell} {cd : Int32} {n : Nat} {f : Nat → Int32} {U U' : State} (h : Txt x t V cd n f U) (hal : U.vm.Alike U'.vm) (hh : U'.heap = U.heap) : Txt x t V cd n f U' := ⟨h.1.mv hal hh, h.2.1.mv hal hh, h.2.2.1.mv hal hh, h.2.2.2.1.mv hal hh, h.2.2.2.2⟩
end StrChars
namespace StrChars.Road
open Jvm Sem ClassFile Op Lib Jvm.Stand Jvm.Free Jvm.Free.XT
open Jvm.Lib.Cold (StaticIs)
theorem consq {a : Array Value} {s : State} {c : Jvm.Cond} {L : List Jvm.Cond} (h0 : c.before a s = true) (h : ∀ w ∈ L, w.before a s = true) : ∀ w ∈ c :: L, w.before a s = true := fun w hw => (List.mem_cons.mp hw).elim (fun e => e ▸ h0) (h w)
/-- the bytes of the chars cs, low before high -/
def wideBytes : List Int32 → List Value
  | [] => []
  | c :: cs => .int (lo8 c) :: .int (hi8 c) :: wideBytes cs
theorem wide_lo (d : Value) : ∀ (cs : List Int32) (j : Nat), j < cs.length → (wideBytes cs).getD (2 * j) d = .int (lo8 (cs.getD j 0))
  | [], j, h => absurd h (Nat.not_lt_zero j)
  | c :: cs, 0, _ => rfl
  | c :: cs, j + 1, h => by
    have q := wide_lo d cs j (by simpa using h)
    rw [show 2 * (j + 1) = 2 * j + 1 + 1 from by omega]
    simpa [wideBytes] using q
theorem wide_hi (d : Value) : ∀ (cs : List Int32) (j : Nat), j < cs.length → (wideBytes cs).getD (2 * j + 1) d = .int (hi8 (cs.getD j 0))
  | [], j, h => absurd h (Nat.not_lt_zero j)
  | c :: cs, 0, _ => rfl
  | c :: cs, j + 1, h => by
    have q := wide_hi d cs j (by simpa using h)
    rw [show 2 * (j + 1) + 1 = 2 * j + 1 + 1 + 1 from by omega]
    simpa [wideBytes] using q
theorem low_at (d : Value) (cs : List Int32) (j : Nat) (h : j < cs.length) : (cs.map fun c => Value.int (lo8 c)).getD j d = .int (lo8 (cs.getD j 0)) := by
  simp [List.getD_eq_getElem?_getD, h]
/-- an array of N2 bytes vs codes the chars cs by the coder cd -/
def CodA (cs : List Int32) (cd N2 : Int32) (vs : List Value) : Prop := (cd = 0 ∧ N2 = Int32.ofNat cs.length ∧ vs = (cs.map fun c => Value.int (lo8 c)) ∧ ∀ c ∈ cs, ¬ 255 < c) ∨ (cd = 1 ∧ N2 = Int32.ofNat (2 * cs.length) ∧ vs = wideBytes cs ∧ ∃ c ∈ cs, 255 < c)
theorem CodA.cod {cs : List Int32} {cd N2 : Int32} {vs : List Value} {V : Cell} (h : CodA cs cd N2 vs) (hn : 2 * cs.length < 2 ^ 31) (hs : V.slots.size = N2.toNatClampNeg) (hv : RoadKit.Has V vs (.int 0)) : Cod cd cs.length (fun j => cs.getD j 0) V := by
  rcases h with ⟨rfl, rfl, rfl, h⟩ | ⟨rfl, rfl, rfl, c, hc, hw⟩
  · rw [n32 (by omega)] at hs
    exact Or.inl ⟨rfl, hs, fun j hj => ⟨by rw [hv j (by omega), low_at _ _ _ hj], by
      have e : cs.getD j 0 = cs[j] := by simp [List.getD_eq_getElem?_getD, hj]
      show ¬ 255 < cs.getD j 0
      rw [e]; exact h _ (List.getElem_mem _)⟩⟩
  · rw [n32 (by omega)] at hs
    obtain ⟨j, hj, rfl⟩ := List.getElem_of_mem hc
    exact Or.inr ⟨rfl, hs, fun j hj => ⟨by rw [hv _ (by omega), wide_lo _ _ _ hj], by rw [hv _ (by omega), wide_hi _ _ _ hj]⟩, j, hj, by
      have e : cs.getD j 0 = cs[j] := by simp [List.getD_eq_getElem?_getD, hj]
      show 255 < cs.getD j 0
      rw [e]; exact hw⟩
/-- an object of exactly java/lang/String, its two fields found: as the laws ask it -/
theorem strObj {Z U : State} {a0 : Array Value} {kI : Nat} (wi : (Jvm.Cond.instantiable ST kI).before a0 Z = true) (al : Z.vm.Alike U.vm) {x : Addr} {v0 c0 : Value} (E : RoadKit.Exa Z U.heap x ST) (V : RoadKit.Fld Z U.heap x ST "value" "[B" v0) (C : RoadKit.Fld Z U.heap x ST "coder" "B" c0) :
    ∃ (D : Cell) (fV fC : Field), Blank ST x D U ∧ Found ST "value" "[B" fV U ∧ Found ST "coder" "B" fC U ∧ D.slots[fV.slot]? = some v0 ∧ D.slots[fC.slot]? = some c0 ∧ RoadKit.slotOf Z ST "value" "[B" = fV.slot ∧ RoadKit.slotOf Z ST "coder" "B" = fC.slot := by
  obtain ⟨D, cfV, kV, iV, fV, hD, gV, stV, knV, obV, asV, slV⟩ := V
  obtain ⟨D', cfC, kC, iC, fC, hD', gC, stC, -, -, asC, slC⟩ := C
  cases hD.symm.trans hD'
  obtain ⟨D2, kD, e1, e2, e3, e4, e5⟩ := E
  cases hD.symm.trans e1
  obtain ⟨c2, k2, i1, i2, i3, -⟩ := Cond.instantiable_spec wi
  cases e2.symm.trans i1
  cases e3.symm.trans i2
  obtain ⟨kU, u1, u2⟩ := al.2.2 _ _ e3
  exact ⟨D, fV, fC, ⟨hD, ⟨knV, fun q hq => by rw [hq] at obV; cases obV⟩, by rw [al.findClass]; exact e2, kU, u1, by rw [u2]; exact i3, by rw [u2]; exact e5 i3⟩, ⟨SBG.found_only al ⟨cfV, kV, iV, gV⟩, stV⟩, ⟨SBG.found_only al ⟨cfC, kC, iC, gC⟩, stC⟩, slV, slC, by simp [RoadKit.slotOf, gV], by simp [RoadKit.slotOf, gC]⟩
theorem sta_is {Z U : State} (al : Z.vm.Alike U.vm) {C n d : String} {v : Value} (S : RoadKit.Sta Z U.heap C n d v) : StaticIs U C n d v := by
  obtain ⟨cfS, iS, kS, fS, st, cS, t1, t2, t3, t4, t5, t6, t7⟩ := S
  exact StaticIs.there (s := { Z with heap := U.heap }) ⟨cfS, iS, kS, fS, st, cS, t1, t2, t3, t4, t5, (fun q => by rw [q] at t6; cases t6), t7⟩ al rfl
end StrChars.Road
namespace StrChars
open Jvm Sem ClassFile Op Lib Jvm.Stand Jvm.Free.XT Jvm.Free.ALB Jvm.Free.JM Jvm.Free
open Jvm.Lib.Cold (StaticIs)
/-- what place i of a byte[]'s cell holds -/
def yv (A : Cell) (i : Nat) : Int32 := match A.slots[i]? with | some (.int x) => x | _ => 0
theorem yv_get {a : Addr} {A : Cell} {U : State} (h : XT.Arr .byte a A U) (ht : Typed .byte A) {i : Nat} (hi : i < A.slots.size) : A.slots[i]? = some (.int (yv A i)) := by
  have e := Array.getElem?_eq_getElem hi
  have f := ht i _ e
  unfold yv; rw [e]
  generalize A.slots[i] = v at f
  cases v <;> simp [fits] at f ⊢
/-- the two arrays are equal, place for place -/
def EqC (A B : Cell) : Prop := A.slots.size = B.slots.size ∧ ∀ i, i < A.slots.size → yv A i = yv B i
/-- a boolean that says whether p -/
def Says01 (q : Prop) (r : Option Value) (s u : State) : Prop := ∃ v : Int32, r = some (.int v) ∧ u.heap = s.heap ∧ ((v = 1 ∧ q) ∨ (v = 0 ∧ ¬ q))
theorem Says01.mv {q : Prop} : ∀ r (U U' V V' : State), U'.heap = U.heap → V.vm.Alike V'.vm → V'.heap = V.heap → Says01 q r U V → Says01 q r U' V' :=
  fun r U U' V V' h1 _ h2 ⟨v, a, b, c⟩ => ⟨v, a, by rw [h1, h2]; exact b, c⟩
namespace LEq
def yN : MethodName := ⟨"java/lang/StringLatin1", "equals", "([B[B)Z"⟩
abbrev yB : ByteArray := jdk_43_method_13_code
theorem d0 : decode yB 0 = .ok (.aload_n 0, 1) := by decide +kernel
theorem d1 : decode yB 1 = .ok (.arraylength, 1) := by decide +kernel
theorem d2 : decode yB 2 = .ok (.aload_n 1, 1) := by decide +kernel
theorem d3 : decode yB 3 = .ok (.arraylength, 1) := by decide +kernel
theorem d4 : decode yB 4 = .ok (.if_icmp (.ne) 30, 3) := by decide +kernel
theorem d7 : decode yB 7 = .ok (.iconst 0, 1) := by decide +kernel
theorem d8 : decode yB 8 = .ok (.istore_n 2, 1) := by decide +kernel
theorem d9 : decode yB 9 = .ok (.iload_n 2, 1) := by decide +kernel
theorem d10 : decode yB 10 = .ok (.aload_n 0, 1) := by decide +kernel
theorem d11 : decode yB 11 = .ok (.arraylength, 1) := by decide +kernel
theorem d12 : decode yB 12 = .ok (.if_icmp (.ge) 20, 3) := by decide +kernel
theorem d15 : decode yB 15 = .ok (.aload_n 0, 1) := by decide +kernel
theorem d16 : decode yB 16 = .ok (.iload_n 2, 1) := by decide +kernel
theorem d17 : decode yB 17 = .ok (.baload, 1) := by decide +kernel
theorem d18 : decode yB 18 = .ok (.aload_n 1, 1) := by decide +kernel
theorem d19 : decode yB 19 = .ok (.iload_n 2, 1) := by decide +kernel
theorem d20 : decode yB 20 = .ok (.baload, 1) := by decide +kernel
theorem d21 : decode yB 21 = .ok (.if_icmp (.eq) 5, 3) := by decide +kernel
theorem d24 : decode yB 24 = .ok (.iconst 0, 1) := by decide +kernel
theorem d25 : decode yB 25 = .ok (.ireturn, 1) := by decide +kernel
theorem d26 : decode yB 26 = .ok (.iinc 2 1, 3) := by decide +kernel
theorem d29 : decode yB 29 = .ok (.goto (-20), 3) := by decide +kernel
theorem d32 : decode yB 32 = .ok (.iconst 1, 1) := by decide +kernel
theorem d33 : decode yB 33 = .ok (.ireturn, 1) := by decide +kernel
theorem d34 : decode yB 34 = .ok (.iconst 0, 1) := by decide +kernel
theorem d35 : decode yB 35 = .ok (.ireturn, 1) := by decide +kernel
def site : List Cond := []
def tab : Cond := tabOf yN yB 3 (some .boolean) site
def P (a : Addr) (A : Cell) (b : Addr) (B : Cell) (args : Array Value) (s : State) : Prop := args = #[.ref a, .ref b] ∧ XT.Arr .byte a A s ∧ Typed .byte A ∧ XT.Arr .byte b B s ∧ Typed .byte B
/-- whether two byte[] are equal, place for place -/
theorem law (l : Launch) (a : Addr) (A : Cell) (b : Addr) (B : Cell) : Law l yN 2 2 0 0 yB 3 (some .boolean) site (P a A b B) (Says01 (EqC A B)) [] 0 0 := by
  refine Law.of_walk (plainFor_of_name (by decide +kernel)) (by decide +kernel) (by decide +kernel) (by decide) (fun _ _ h => by rw [h.1]; rfl) (fun _ U U' hal hh h => ⟨h.1, h.2.1.mv hal hh, h.2.2.1, h.2.2.2.1.mv hal hh, h.2.2.2.2⟩) (fun r U U' V V' h1 hal h2 h => Says01.mv r U U' V V' h1 hal h2 h) ?_
  intro p e s m args below meth c s₁ X0 hexec hbytes hml hret hlk hnm hown hh0 W hP
  obtain ⟨rfl, hA, tA, hB, tB⟩ := hP
  have a31 := hA.2.2.2
  have b31 := hB.2.2.2
  have hA0 := hA.mv X0.warmed.alike hh0
  have hB0 := hB.mv X0.warmed.alike hh0
  have c1 : Steps p.tables e below (s₁.setTop (entryFrame m #[.ref a, .ref b] 3)) (s₁.setTop (mkF m 0 #[.val (.ref a), .val (.ref b), .unset] [])) := entry rfl
  have c2 : Steps p.tables e below (s₁.setTop (entryFrame m #[.ref a, .ref b] 3)) (s₁.setTop (mkF m 4 #[.val (.ref a), .val (.ref b), .unset] [.int (Int32.ofNat B.slots.size), .int (Int32.ofNat A.slots.size)])) := c1.trans (by
    refine XS.aloadN X0.here hexec rfl (hb hbytes d0) rfl rfl ?_
    refine X0.alen hexec hA0 rfl rfl (hb hbytes d1) ?_
    refine XS.aloadN X0.here hexec rfl (hb hbytes d2) rfl rfl ?_
    refine X0.alen hexec hB0 rfl rfl (hb hbytes d3) ?_
    exact Steps.refl _)
  by_cases hs : A.slots.size = B.slots.size
  · have c3 : Steps p.tables e below (s₁.setTop (entryFrame m #[.ref a, .ref b] 3)) (s₁.setTop (mkF m 9 #[.val (.ref a), .val (.ref b), .val (.int 0)] [])) := c2.trans (by
      refine XS.icmpNo X0.here hexec rfl (hb hbytes d4) rfl (ii_ne_f (by rw [hs])) ?_
      refine iconstV X0.here hexec rfl 0 (hb hbytes d7) (by decide) ?_
      refine XS.istoreN X0.here hexec rfl (hb hbytes d8) rfl rfl ?_
      exact Steps.refl _)
    have loop : ∀ (r i : Nat), i + r = A.slots.size → (∀ j, j < i → yv A j = yv B j) → Steps p.tables e below (s₁.setTop (entryFrame m #[.ref a, .ref b] 3)) (s₁.setTop (mkF m 9 #[.val (.ref a), .val (.ref b), .val (.int (Int32.ofNat i))] [])) → ∃ (pc : Nat) (Ls : Array Slot) (v : Int32), (pc = 25 ∨ pc = 33) ∧ ((v = 1 ∧ EqC A B) ∨ (v = 0 ∧ ¬ EqC A B)) ∧ Steps p.tables e below (s₁.setTop (entryFrame m #[.ref a, .ref b] 3)) (s₁.setTop (mkF m pc Ls [.int v])) := by
      intro r
      induction r with
      | zero =>
        intro i hi he cl
        exact ⟨33, _, 1, Or.inr rfl, Or.inl ⟨rfl, hs, fun j hj => he j (by omega)⟩, cl.trans (by
          refine XS.iloadN X0.here hexec rfl (hb hbytes d9) rfl ?_
          refine XS.aloadN X0.here hexec rfl (hb hbytes d10) rfl rfl ?_
          refine X0.alen hexec hA0 rfl rfl (hb hbytes d11) ?_
          refine XS.icmpYes X0.here hexec rfl (pc0 := 12) rfl (hb hbytes d12) rfl (ii_ge_t (nlt32 (by omega) (by omega))) (by decide) rfl ?_
          refine iconstV X0.here hexec rfl 1 (hb hbytes d32) (by decide) ?_
          exact Steps.refl _)⟩
      | succ r ih =>
        intro i hi he cl
        have c4 : Steps p.tables e below (s₁.setTop (entryFrame m #[.ref a, .ref b] 3)) (s₁.setTop (mkF m 21 #[.val (.ref a), .val (.ref b), .val (.int (Int32.ofNat i))] [.int (yv B i), .int (yv A i)])) := cl.trans (by
          refine XS.iloadN X0.here hexec rfl (hb hbytes d9) rfl ?_
          refine XS.aloadN X0.here hexec rfl (hb hbytes d10) rfl rfl ?_
          refine X0.alen hexec hA0 rfl rfl (hb hbytes d11) ?_
          refine XS.icmpNo X0.here hexec rfl (hb hbytes d12) rfl (ii_ge_f (lt32 (by omega) (by omega))) ?_
          refine XS.aloadN X0.here hexec rfl (hb hbytes d15) rfl rfl ?_
          refine XS.iloadN X0.here hexec rfl (hb hbytes d16) rfl ?_
          refine X0.aget hexec hA0 rfl (yv_get hA tA (i := i) (by omega)) rfl rfl (hb hbytes d17) ?_
          refine XS.aloadN X0.here hexec rfl (hb hbytes d18) rfl rfl ?_
          refine XS.iloadN X0.here hexec rfl (hb hbytes d19) rfl ?_
          refine X0.aget hexec hB0 rfl (yv_get hB tB (i := i) (by omega)) rfl rfl (hb hbytes d20) ?_
          exact Steps.refl _)
        by_cases hv : yv A i = yv B i
        · have c5 : Steps p.tables e below (s₁.setTop (entryFrame m #[.ref a, .ref b] 3)) (s₁.setTop (mkF m 9 #[.val (.ref a), .val (.ref b), .val (.int (Int32.ofNat i + 1))] [])) := c4.trans (by
            refine XS.icmpYes X0.here hexec rfl (pc0 := 21) rfl (hb hbytes d21) rfl (ii_eq_t hv) (by decide) rfl ?_
            refine iincV X0.here hexec rfl 1 (hb hbytes d26) (by decide) rfl rfl ?_
            refine XS.goto X0.here hexec rfl (pc0 := 29) rfl (hb hbytes d29) (by decide) rfl ?_
            exact Steps.refl _)
          rw [succ32] at c5
          exact ih (i + 1) (by omega) (fun j hj => by
            by_cases e : j = i
            · rw [e]; exact hv
            · exact he j (by omega)) c5
        · exact ⟨25, _, 0, Or.inl rfl, Or.inr ⟨rfl, fun q => hv (q.2 i (by omega))⟩, c4.trans (by
            refine XS.icmpNo X0.here hexec rfl (hb hbytes d21) rfl (ii_eq_f hv) ?_
            refine iconstV X0.here hexec rfl 0 (hb hbytes d24) (by decide) ?_
            exact Steps.refl _)⟩
    obtain ⟨pc, Ls, v, hpc, hv, cz⟩ := loop A.slots.size 0 (by omega) (fun j hj => absurd hj (Nat.not_lt_zero j)) c3
    have nv : narrow .boolean (.int v) = .int v := by rcases hv with ⟨rfl, -⟩ | ⟨rfl, -⟩ <;> rfl
    rcases hpc with rfl | rfl
    · exact ⟨s₁, some (.int v), _, _, _, X0, rfl, rfl, rfl, (fun h => by cases h), ⟨v, rfl, hh0, hv⟩, fun fs hl => cz.trans (X0.ireturnOut hexec hret nv (Or.inr (Or.inl rfl)) (hb hbytes d25) hl)⟩
    · exact ⟨s₁, some (.int v), _, _, _, X0, rfl, rfl, rfl, (fun h => by cases h), ⟨v, rfl, hh0, hv⟩, fun fs hl => cz.trans (X0.ireturnOut hexec hret nv (Or.inr (Or.inl rfl)) (hb hbytes d33) hl)⟩
  · have c3 : Steps p.tables e below (s₁.setTop (entryFrame m #[.ref a, .ref b] 3)) (s₁.setTop (mkF m 35 #[.val (.ref a), .val (.ref b), .unset] [.int 0])) := c2.trans (by
      refine XS.icmpYes X0.here hexec rfl (pc0 := 4) rfl (hb hbytes d4) rfl (ii_ne_t (ne32 a31 b31 hs)) (by decide) rfl ?_
      refine iconstV X0.here hexec rfl 0 (hb hbytes d34) (by decide) ?_
      exact Steps.refl _)
    exact ⟨s₁, some (.int 0), _, _, _, X0, rfl, rfl, rfl, (fun h => by cases h), ⟨0, rfl, hh0, Or.inr ⟨rfl, fun q => hs q.1⟩⟩, fun fs hl => c3.trans (X0.ireturnOut hexec hret rfl (Or.inr (Or.inl rfl)) (hb hbytes d35) hl)⟩
end LEq
theorem Cod.ty {cd : Int32} {n : Nat} {f : Nat → Int32} {V : Cell} (h : Cod cd n f V) : Typed .byte V := fun i v hv => by
  have hi : i < V.slots.size := (Array.getElem?_eq_some_iff.mp hv).1
  rcases h with ⟨-, k1, k2⟩ | ⟨-, k1, k2, -⟩
  · rw [(k2 i (by omega)).1] at hv; cases hv; exact fits_lo8 _
  · rcases Nat.mod_two_eq_zero_or_one i with e | e
    · obtain ⟨j, rfl⟩ : ∃ j, i = 2 * j := ⟨i / 2, by omega⟩
      rw [(k2 j (by omega)).1] at hv; cases hv; exact fits_lo8 _
    · obtain ⟨j, rfl⟩ : ∃ j, i = 2 * j + 1 := ⟨i / 2, by omega⟩
      rw [(k2 j (by omega)).2] at hv; cases hv; exact fits_lo8 _
/-- the same text -/
def SameT (n : Nat) (f : Nat → Int32) (k : Nat) (g : Nat → Int32) : Prop := n = k ∧ ∀ j, j < n → f j = g j
theorem lo8_inj {x y : Int32} (h0 : ¬ x < 0) (h1 : ¬ 255 < x) (k0 : ¬ y < 0) (k1 : ¬ 255 < y) (h : lo8 x = lo8 y) : x = y := by
  rw [← lo8_mask h0 h1, ← lo8_mask k0 k1, h]
/-- arrays coded by one coder are equal just where the texts are -/
theorem Cod.eqv {cd : Int32} {n k : Nat} {f g : Nat → Int32} {V V' : Cell} (h : Cod cd n f V) (h' : Cod cd k g V') (hf : ∀ j, j < n → ¬ f j < 0 ∧ ¬ 65535 < f j) (hg : ∀ j, j < k → ¬ g j < 0 ∧ ¬ 65535 < g j) : EqC V V' ↔ SameT n f k g := by
  have yvv : ∀ {W : Cell} {i : Nat} {x : Int32}, W.slots[i]? = some (.int x) → yv W i = x := fun q => by unfold yv; rw [q]
  rcases h with ⟨rfl, k1, k2⟩ | ⟨rfl, k1, k2, -⟩
  · rcases h' with ⟨-, m1, m2⟩ | ⟨e, -⟩
    · constructor
      · rintro ⟨e1, e2⟩
        refine ⟨by omega, fun j hj => ?_⟩
        have q := e2 j (by omega)
        rw [yvv (k2 j hj).1, yvv (m2 j (by omega)).1] at q
        exact lo8_inj (hf j hj).1 (k2 j hj).2 (hg j (by omega)).1 (m2 j (by omega)).2 q
      · rintro ⟨rfl, e2⟩
        refine ⟨by omega, fun j hj => ?_⟩
        rw [yvv (k2 j (by omega)).1, yvv (m2 j (by omega)).1, e2 j (by omega)]
    · exact absurd e (by decide)
  · rcases h' with ⟨e, -⟩ | ⟨-, m1, m2, -⟩
    · exact absurd e (by decide)
    · constructor
      · rintro ⟨e1, e2⟩
        refine ⟨by omega, fun j hj => ?_⟩
        have q1 := e2 (2 * j) (by omega)
        have q2 := e2 (2 * j + 1) (by omega)
        rw [yvv (k2 j hj).1, yvv (m2 j (by omega)).1] at q1
        rw [yvv (k2 j hj).2, yvv (m2 j (by omega)).2] at q2
        rw [← pair_says (hf j hj).1 (hf j hj).2, ← pair_says (hg j (by omega)).1 (hg j (by omega)).2, q1, q2]
      · rintro ⟨rfl, e2⟩
        refine ⟨by omega, fun i hi => ?_⟩
        rcases Nat.mod_two_eq_zero_or_one i with e | e
        · obtain ⟨j, rfl⟩ : ∃ j, i = 2 * j := ⟨i / 2, by omega⟩
          rw [yvv (k2 j (by omega)).1, yvv (m2 j (by omega)).1, e2 j (by omega)]
        · obtain ⟨j, rfl⟩ : ∃ j, i = 2 * j + 1 := ⟨i / 2, by omega⟩
          rw [yvv (k2 j (by omega)).2, yvv (m2 j (by omega)).2, e2 j (by omega)]
/-- two codings differ: so do the texts -/
theorem Cod.dif {cd cd' : Int32} {n k : Nat} {f g : Nat → Int32} {V V' : Cell} (h : Cod cd n f V) (h' : Cod cd' k g V') (hne : ¬ cd = cd') : ¬ SameT n f k g := by
  rintro ⟨rfl, e⟩
  rcases h with ⟨rfl, -, k2⟩ | ⟨rfl, -, -, j, hj, hw⟩
  · rcases h' with ⟨rfl, -⟩ | ⟨-, -, -, j, hj, hw⟩
    · exact hne rfl
    · exact (k2 j hj).2 (by rw [e j hj]; exact hw)
  · rcases h' with ⟨-, -, m2⟩ | ⟨rfl, -⟩
    · exact (m2 j hj).2 (by rw [← e j hj]; exact hw)
    · exact hne rfl
/-- an object of exactly C is an instance of C -/
theorem cinst {p : Program} {l : Launch} {e : Env} {R : Room} {s : State} {m : MethodId} {args : Array Value} {below : List Frame} {meth : Method} {c : Code} {T : State} {locs : List Loc} {cells slots : Nat} (X : Stand p l e R s m args below meth c T locs cells slots) (hexec : p.tables.exec = Jvm.exec) {own C : String} {index : Nat} (hown : s.vm.findClass own = some m.cls) (hlink : (Cond.classLink own index C).before args s = true) {a : Addr} (hE : Exact C a T)
    {g : JFrame} (hg : g.method = m) {rest : List Value} (hstack : g.stack = .ref a :: rest) (hdg : decode c.code g.pc = .ok (.instanceof index, 3)) :
    ∃ T', Stand p l e R s m args below meth c T' locs cells slots ∧ T'.heap = T.heap ∧ ∀ target, Steps p.tables e below (T'.setTop { g with pc := g.pc + 3, stack := .int 1 :: rest }) target → Steps p.tables e below (T.setTop g) target := by
  obtain ⟨cB, h1, D, h2, h3, h4⟩ := hE
  have h1' : s.vm.findClass C = some cB := by rw [← X.warmed.alike.findClass]; exact h1
  obtain ⟨vm', X', st⟩ := X.instanceofYes hexec hown hlink h2 h4 h1' (by rw [h3]; exact Jvm.Free.SB.assignable_self _ _) hg hstack hdg
  exact ⟨_, X', rfl, st⟩
theorem cself {p : Program} {l : Launch} {e : Env} {R : Room} {s : State} {m : MethodId} {args : Array Value} {below : List Frame} {meth : Method} {c : Code} {T : State} {locs : List Loc} {cells slots : Nat} (X : Stand p l e R s m args below meth c T locs cells slots) (hexec : p.tables.exec = Jvm.exec) {own C : String} {index : Nat} (hown : s.vm.findClass own = some m.cls) (hlink : (Cond.classLink own index C).before args s = true) {a : Addr} (hE : Exact C a T)
    {g : JFrame} (hg : g.method = m) {rest : List Value} (hstack : g.stack = .ref a :: rest) (hdg : decode c.code g.pc = .ok (.checkcast index, 3)) :
    ∃ T', Stand p l e R s m args below meth c T' locs cells slots ∧ T'.heap = T.heap ∧ ∀ target, Steps p.tables e below (T'.setTop { g with pc := g.pc + 3, stack := .ref a :: rest }) target → Steps p.tables e below (T.setTop g) target := by
  obtain ⟨cB, h1, D, h2, h3, h4⟩ := hE
  have h1' : s.vm.findClass C = some cB := by rw [← X.warmed.alike.findClass]; exact h1
  obtain ⟨vm', X', st⟩ := X.checkcastYes hexec hown hlink h2 h4 h1' (by rw [h3]; exact Jvm.Free.SB.assignable_self _ _) hg hstack hdg
  exact ⟨_, X', rfl, fun t h => st t (by rw [← hstack] at h; exact h)⟩
namespace SEq
def yN : MethodName := ⟨"java/lang/String", "equals", "(Ljava/lang/Object;)Z"⟩
abbrev yB : ByteArray := jdk_42_method_66_code
theorem d0 : decode yB 0 = .ok (.aload_n 0, 1) := by decide +kernel
theorem d1 : decode yB 1 = .ok (.aload_n 1, 1) := by decide +kernel
theorem d2 : decode yB 2 = .ok (.if_acmp (.ne) 5, 3) := by decide +kernel
theorem d5 : decode yB 5 = .ok (.iconst 1, 1) := by decide +kernel
theorem d6 : decode yB 6 = .ok (.ireturn, 1) := by decide +kernel
theorem d7 : decode yB 7 = .ok (.aload_n 1, 1) := by decide +kernel
theorem d8 : decode yB 8 = .ok (.instanceof 10, 3) := by decide +kernel
theorem d11 : decode yB 11 = .ok (.ifCond (.eq) 43, 3) := by decide +kernel
theorem d14 : decode yB 14 = .ok (.aload_n 1, 1) := by decide +kernel
theorem d15 : decode yB 15 = .ok (.checkcast 10, 3) := by decide +kernel
theorem d18 : decode yB 18 = .ok (.astore_n 2, 1) := by decide +kernel
theorem d19 : decode yB 19 = .ok (.getstatic 38, 3) := by decide +kernel
theorem d22 : decode yB 22 = .ok (.ifCond (.eq) 14, 3) := by decide +kernel
theorem d25 : decode yB 25 = .ok (.aload_n 0, 1) := by decide +kernel
theorem d26 : decode yB 26 = .ok (.getfield 15, 3) := by decide +kernel
theorem d29 : decode yB 29 = .ok (.aload_n 2, 1) := by decide +kernel
theorem d30 : decode yB 30 = .ok (.getfield 15, 3) := by decide +kernel
theorem d33 : decode yB 33 = .ok (.if_icmp (.ne) 21, 3) := by decide +kernel
theorem d36 : decode yB 36 = .ok (.aload_n 0, 1) := by decide +kernel
theorem d37 : decode yB 37 = .ok (.getfield 9, 3) := by decide +kernel
theorem d40 : decode yB 40 = .ok (.aload_n 2, 1) := by decide +kernel
theorem d41 : decode yB 41 = .ok (.getfield 9, 3) := by decide +kernel
theorem d44 : decode yB 44 = .ok (.invokestatic 541, 3) := by decide +kernel
theorem d47 : decode yB 47 = .ok (.ifCond (.eq) 7, 3) := by decide +kernel
theorem d50 : decode yB 50 = .ok (.iconst 1, 1) := by decide +kernel
theorem d51 : decode yB 51 = .ok (.goto 4, 3) := by decide +kernel
theorem d54 : decode yB 54 = .ok (.iconst 0, 1) := by decide +kernel
theorem d55 : decode yB 55 = .ok (.ireturn, 1) := by decide +kernel
def site : List Cond := [.classLink "java/lang/String" 10 "java/lang/String", .fieldLink "java/lang/String" 38 "java/lang/String" "COMPACT_STRINGS" "Z", .fieldLink "java/lang/String" 15 "java/lang/String" "coder" "B", .fieldLink "java/lang/String" 9 "java/lang/String" "value" "[B", LEq.tab] ++ staticW "java/lang/String" 541 LEq.yN
def tab : Cond := tabOf yN yB 3 (some .boolean) site
def P (x t : Addr) (V : Cell) (cd : Int32) (n : Nat) (f : Nat → Int32) (y t' : Addr) (V' : Cell) (cd' : Int32) (k : Nat) (g : Nat → Int32) (z : Int32) (args : Array Value) (s : State) : Prop := args = #[.ref x, .ref y] ∧ Txt x t V cd n f s ∧ Txt y t' V' cd' k g s ∧ StaticIs s "java/lang/String" "COMPACT_STRINGS" "Z" (.int z) ∧ ¬ z = 0
/-- equals(Object) of two Strings: whether the texts are the same -/
theorem law (l : Launch) (x t : Addr) (V : Cell) (cd : Int32) (n : Nat) (f : Nat → Int32) (y t' : Addr) (V' : Cell) (cd' : Int32) (k : Nat) (g : Nat → Int32) (z : Int32) : Law l yN 2 1 1 14 yB 3 (some .boolean) site (P x t V cd n f y t' V' cd' k g z) (Says01 (SameT n f k g)) [] 0 0 := by
  refine Law.of_walk (plainFor_of_name (by decide +kernel)) (by decide +kernel) (by decide +kernel) (by decide) (fun _ _ h => by rw [h.1]; rfl) (fun _ U U' hal hh h => ⟨h.1, h.2.1.mv hal hh, h.2.2.1.mv hal hh, h.2.2.2.1.there hal hh, h.2.2.2.2⟩) (fun r U U' V V' h1 hal h2 h => Says01.mv r U U' V V' h1 hal h2 h) ?_
  intro p e s m args below meth c s₁ X0 hexec hbytes hml hret hlk hnm hown hh0 W hP
  obtain ⟨rfl, hx, hy, s1, hz⟩ := hP
  have c1 : Steps p.tables e below (s₁.setTop (entryFrame m #[.ref x, .ref y] 3)) (s₁.setTop (mkF m 2 #[.val (.ref x), .val (.ref y), .unset] [.ref y, .ref x])) := Steps.trans (entry rfl) (by
    show Steps p.tables e below (s₁.setTop (mkF m 0 #[.val (.ref x), .val (.ref y), .unset] [])) _
    refine XS.aloadN X0.here hexec rfl (hb hbytes d0) rfl rfl ?_
    refine XS.aloadN X0.here hexec rfl (hb hbytes d1) rfl rfl ?_
    exact Steps.refl _)
  by_cases hxy : x = y
  · have c2 : Steps p.tables e below (s₁.setTop (entryFrame m #[.ref x, .ref y] 3)) (s₁.setTop (mkF m 6 #[.val (.ref x), .val (.ref y), .unset] [.int 1])) := c1.trans (by
      refine acmpNo X0.here hexec rfl (hb hbytes d2) rfl rfl rfl (by simp [acmp, hxy]) ?_
      refine iconstV X0.here hexec rfl 1 (hb hbytes d5) (by decide) ?_
      exact Steps.refl _)
    subst hxy
    have ec : cd = cd' := by
      obtain ⟨D, fd, a1, a2, a3⟩ := hx.2.2.1
      obtain ⟨D', fd', b1, b2, b3⟩ := hy.2.2.1
      cases a1.symm.trans b1
      obtain ⟨q1, q2, q3, q4⟩ := a2.1
      obtain ⟨r1, r2, r3, r4⟩ := b2.1
      cases q4.symm.trans r4
      cases a3.symm.trans b3; rfl
    have et : t = t' := by
      obtain ⟨D, fd, a1, a2, a3⟩ := hx.2.1
      obtain ⟨D', fd', b1, b2, b3⟩ := hy.2.1
      cases a1.symm.trans b1
      obtain ⟨q1, q2, q3, q4⟩ := a2.1
      obtain ⟨r1, r2, r3, r4⟩ := b2.1
      cases q4.symm.trans r4
      cases a3.symm.trans b3; rfl
    subst ec et
    have ev : V = V' := by cases hx.2.2.2.1.1.symm.trans hy.2.2.2.1.1; rfl
    subst ev
    have hs : SameT n f k g := (Cod.eqv hx.2.2.2.2.1 hy.2.2.2.2.1 hx.2.2.2.2.2 hy.2.2.2.2.2).mp ⟨rfl, fun _ _ => rfl⟩
    exact ⟨s₁, some (.int 1), _, _, _, X0, rfl, rfl, rfl, (fun h => by cases h), ⟨1, rfl, hh0, Or.inl ⟨rfl, hs⟩⟩, fun fs hl => c2.trans (X0.ireturnOut hexec hret rfl (Or.inr (Or.inl rfl)) (hb hbytes d6) hl)⟩
  · have c2 : Steps p.tables e below (s₁.setTop (entryFrame m #[.ref x, .ref y] 3)) (s₁.setTop (mkF m 8 #[.val (.ref x), .val (.ref y), .unset] [.ref y])) := c1.trans (by
      refine acmpYes X0.here hexec rfl (pc0 := 2) rfl (hb hbytes d2) rfl rfl rfl (by simp [acmp, hxy]) (by decide) rfl ?_
      refine XS.aloadN X0.here hexec rfl (hb hbytes d7) rfl rfl ?_
      exact Steps.refl _)
    obtain ⟨T3, X3, q3, st3⟩ := cinst X0 hexec hown (wk W (.classLink "java/lang/String" 10 "java/lang/String")) (hy.mv X0.warmed.alike hh0).1 (g := (mkF m 8 #[.val (.ref x), .val (.ref y), .unset] [.ref y])) rfl (rest := []) rfl (hb hbytes d8)
    have hh3 := q3.trans hh0
    have c4 : Steps p.tables e below (s₁.setTop (entryFrame m #[.ref x, .ref y] 3)) (T3.setTop (mkF m 15 #[.val (.ref x), .val (.ref y), .unset] [.ref y])) := (c2.trans (st3 _ (Steps.refl _))).trans (by
      refine XS.ifNo X3.here hexec rfl (hb hbytes d11) rfl (i0_eq_f (by decide)) ?_
      refine XS.aloadN X3.here hexec rfl (hb hbytes d14) rfl rfl ?_
      exact Steps.refl _)
    obtain ⟨T5, X5, q5, st5⟩ := cself X3 hexec hown (wk W (.classLink "java/lang/String" 10 "java/lang/String")) (hy.mv X3.warmed.alike hh3).1 (g := (mkF m 15 #[.val (.ref x), .val (.ref y), .unset] [.ref y])) rfl (rest := []) rfl (hb hbytes d15)
    have hh5 := q5.trans hh3
    have c6 : Steps p.tables e below (s₁.setTop (entryFrame m #[.ref x, .ref y] 3)) (T5.setTop (mkF m 19 #[.val (.ref x), .val (.ref y), .val (.ref y)] [])) := (c4.trans (st5 _ (Steps.refl _))).trans (by
      refine XS.astoreN X5.here hexec rfl (hb hbytes d18) rfl rfl rfl ?_
      exact Steps.refl _)
    obtain ⟨T7, X7, q7, st7⟩ := X5.sget hexec hown (wk W (.fieldLink "java/lang/String" 38 "java/lang/String" "COMPACT_STRINGS" "Z")) s1 (fun _ _ h => by rw [hh5]; exact h) (g := (mkF m 19 #[.val (.ref x), .val (.ref y), .val (.ref y)] [])) rfl (hb hbytes d19)
    have hh7 := q7.trans hh5
    have c8 : Steps p.tables e below (s₁.setTop (entryFrame m #[.ref x, .ref y] 3)) (T7.setTop (mkF m 26 #[.val (.ref x), .val (.ref y), .val (.ref y)] [.ref x])) := (c6.trans (st7 _ (Steps.refl _))).trans (by
      refine XS.ifNo X7.here hexec rfl (hb hbytes d22) rfl (i0_eq_f hz) ?_
      refine XS.aloadN X7.here hexec rfl (hb hbytes d25) rfl rfl ?_
      exact Steps.refl _)
    obtain ⟨T9, X9, q9, st9⟩ := X7.hget hexec hown (wk W (.fieldLink "java/lang/String" 15 "java/lang/String" "coder" "B")) (hx.mv X7.warmed.alike hh7).2.2.1 (g := (mkF m 26 #[.val (.ref x), .val (.ref y), .val (.ref y)] [.ref x])) rfl (rest := []) rfl (hb hbytes d26)
    have hh9 := q9.trans hh7
    have c10 : Steps p.tables e below (s₁.setTop (entryFrame m #[.ref x, .ref y] 3)) (T9.setTop (mkF m 30 #[.val (.ref x), .val (.ref y), .val (.ref y)] [.ref y, .int cd])) := (c8.trans (st9 _ (Steps.refl _))).trans (by
      refine XS.aloadN X9.here hexec rfl (hb hbytes d29) rfl rfl ?_
      exact Steps.refl _)
    obtain ⟨T11, X11, q11, st11⟩ := X9.hget hexec hown (wk W (.fieldLink "java/lang/String" 15 "java/lang/String" "coder" "B")) (hy.mv X9.warmed.alike hh9).2.2.1 (g := (mkF m 30 #[.val (.ref x), .val (.ref y), .val (.ref y)] [.ref y, .int cd])) rfl (rest := [.int cd]) rfl (hb hbytes d30)
    have hh11 := q11.trans hh9
    have c12 : Steps p.tables e below (s₁.setTop (entryFrame m #[.ref x, .ref y] 3)) (T11.setTop (mkF m 33 #[.val (.ref x), .val (.ref y), .val (.ref y)] [.int cd', .int cd])) := c10.trans (st11 _ (Steps.refl _))
    by_cases hcd : cd = cd'
    · subst hcd
      have c13 : Steps p.tables e below (s₁.setTop (entryFrame m #[.ref x, .ref y] 3)) (T11.setTop (mkF m 37 #[.val (.ref x), .val (.ref y), .val (.ref y)] [.ref x])) := c12.trans (by
        refine XS.icmpNo X11.here hexec rfl (hb hbytes d33) rfl (ii_ne_f rfl) ?_
        refine XS.aloadN X11.here hexec rfl (hb hbytes d36) rfl rfl ?_
        exact Steps.refl _)
      obtain ⟨T14, X14, q14, st14⟩ := X11.hget hexec hown (wk W (.fieldLink "java/lang/String" 9 "java/lang/String" "value" "[B")) (hx.mv X11.warmed.alike hh11).2.1 (g := (mkF m 37 #[.val (.ref x), .val (.ref y), .val (.ref y)] [.ref x])) rfl (rest := []) rfl (hb hbytes d37)
      have hh14 := q14.trans hh11
      have c15 : Steps p.tables e below (s₁.setTop (entryFrame m #[.ref x, .ref y] 3)) (T14.setTop (mkF m 41 #[.val (.ref x), .val (.ref y), .val (.ref y)] [.ref y, .ref t])) := (c13.trans (st14 _ (Steps.refl _))).trans (by
        refine XS.aloadN X14.here hexec rfl (hb hbytes d40) rfl rfl ?_
        exact Steps.refl _)
      obtain ⟨T16, X16, q16, st16⟩ := X14.hget hexec hown (wk W (.fieldLink "java/lang/String" 9 "java/lang/String" "value" "[B")) (hy.mv X14.warmed.alike hh14).2.1 (g := (mkF m 41 #[.val (.ref x), .val (.ref y), .val (.ref y)] [.ref y, .ref t])) rfl (rest := [.ref t]) rfl (hb hbytes d41)
      have hh16 := q16.trans hh14
      have c17 : Steps p.tables e below (s₁.setTop (entryFrame m #[.ref x, .ref y] 3)) (T16.setTop (mkF m 44 #[.val (.ref x), .val (.ref y), .val (.ref y)] [.ref t', .ref t])) := c15.trans (st16 _ (Steps.refl _))
      obtain ⟨v18, T18, X18, E18, g18⟩ := X16.callS hexec (LEq.law l t V t' V') hown (wks W (staticW "java/lang/String" 541 LEq.yN)) (wk W LEq.tab) (W := 0) (Nat.le_of_ble_eq_true rfl) (Nat.le_of_ble_eq_true rfl) (Nat.le_refl _) (Nat.le_refl _) (g := (mkF m 44 #[.val (.ref x), .val (.ref y), .val (.ref y)] [.ref t', .ref t])) rfl (by rw [hml]; rfl) c17 (argsL := [.ref t, .ref t']) (rest := []) rfl rfl (by show 2 * 0 + 0 ≤ _; decide) (hb hbytes d44) (⟨rfl, hx.2.2.2.1.mv X16.warmed.alike hh16, hx.2.2.2.2.1.ty, hy.2.2.2.1.mv X16.warmed.alike hh16, hy.2.2.2.2.1.ty⟩)
      obtain ⟨v, rfl, q18, hv⟩ := E18
      have iff := Cod.eqv hx.2.2.2.2.1 hy.2.2.2.2.1 hx.2.2.2.2.2 hy.2.2.2.2.2
      rcases hv with ⟨rfl, he⟩ | ⟨rfl, he⟩
      · have c19 : Steps p.tables e below (s₁.setTop (entryFrame m #[.ref x, .ref y] 3)) (T18.setTop (mkF m 55 #[.val (.ref x), .val (.ref y), .val (.ref y)] [.int 1])) := Steps.trans g18 (by
          refine XS.ifNo X18.here hexec rfl (hb hbytes d47) rfl (i0_eq_f (by decide)) ?_
          refine iconstV X18.here hexec rfl 1 (hb hbytes d50) (by decide) ?_
          refine XS.goto X18.here hexec rfl (pc0 := 51) rfl (hb hbytes d51) (by decide) rfl ?_
          exact Steps.refl _)
        exact ⟨T18, some (.int 1), _, _, _, X18, rfl, rfl, rfl, (fun h => by cases h), ⟨1, rfl, q18.trans hh16, Or.inl ⟨rfl, iff.mp he⟩⟩, fun fs hl => c19.trans (X18.ireturnOut hexec hret rfl (Or.inr (Or.inl rfl)) (hb hbytes d55) hl)⟩
      · have c19 : Steps p.tables e below (s₁.setTop (entryFrame m #[.ref x, .ref y] 3)) (T18.setTop (mkF m 55 #[.val (.ref x), .val (.ref y), .val (.ref y)] [.int 0])) := Steps.trans g18 (by
          refine XS.ifYes X18.here hexec rfl (pc0 := 47) rfl (hb hbytes d47) rfl (i0_eq_t rfl) (by decide) rfl ?_
          refine iconstV X18.here hexec rfl 0 (hb hbytes d54) (by decide) ?_
          exact Steps.refl _)
        exact ⟨T18, some (.int 0), _, _, _, X18, rfl, rfl, rfl, (fun h => by cases h), ⟨0, rfl, q18.trans hh16, Or.inr ⟨rfl, fun q => he (iff.mpr q)⟩⟩, fun fs hl => c19.trans (X18.ireturnOut hexec hret rfl (Or.inr (Or.inl rfl)) (hb hbytes d55) hl)⟩
    · have c13 : Steps p.tables e below (s₁.setTop (entryFrame m #[.ref x, .ref y] 3)) (T11.setTop (mkF m 55 #[.val (.ref x), .val (.ref y), .val (.ref y)] [.int 0])) := c12.trans (by
        refine XS.icmpYes X11.here hexec rfl (pc0 := 33) rfl (hb hbytes d33) rfl (ii_ne_t hcd) (by decide) rfl ?_
        refine iconstV X11.here hexec rfl 0 (hb hbytes d54) (by decide) ?_
        exact Steps.refl _)
      exact ⟨T11, some (.int 0), _, _, _, X11, rfl, rfl, rfl, (fun h => by cases h), ⟨0, rfl, hh11, Or.inr ⟨rfl, Cod.dif hx.2.2.2.2.1 hy.2.2.2.2.1 hcd⟩⟩, fun fs hl => c13.trans (X11.ireturnOut hexec hret rfl (Or.inr (Or.inl rfl)) (hb hbytes d55) hl)⟩
theorem pays {l : Launch} {R : Room} {p : Program} {e : Env} {below : List Frame} {s : State} {sargs : Array Value} {len W : Nat} (x t : Addr) (V : Cell) (cd : Int32) (n : Nat) (f : Nat → Int32) (y t' : Addr) (V' : Cell) (cd' : Int32) (k : Nat) (g : Nat → Int32) (z : Int32) (htab : tab.before sargs s = true) (hfr : 2 ≤ R.frames) (hlo : W + 28 ≤ R.locals) :
    Back l R p e below s sargs yN len W (fun A₁ a₁ => A₁.cells + 0 ≤ R.cells ∧ A₁.slots + 0 ≤ R.slots ∧ P x t V cd n f y t' V' cd' k g z a₁ A₁.U) (fun A₁ _ v₁ B₁ => Says01 (SameT n f k g) v₁ A₁.U B₁.U ∧ B₁.locs = A₁.locs ++ [] ∧ B₁.cells = A₁.cells + 0 ∧ B₁.slots = A₁.slots + 0) :=
  (law l x t V cd n f y t' V' cd' k g z).pays htab hfr (by omega)
end SEq
end StrChars
namespace StrChars.Road
open Jvm Sem ClassFile Op Lib Jvm.Stand Jvm.Free Jvm.Free.XT
open Jvm.Lib.Cold (StaticIs)
/-- the words of String.equals(Object) -/
abbrev wordsEq : List Jvm.Cond := [.code SEq.yN SEq.yB 3 (some .boolean), .initialized ST, .classLink ST 10 ST, .fieldLink ST 38 ST "COMPACT_STRINGS" "Z", .fieldLink ST 15 ST "coder" "B", .fieldLink ST 9 ST "value" "[B", .methodLink ST 541 LEq.yN, .static LEq.yN, .code LEq.yN LEq.yB 3 (some .boolean), .initialized "java/lang/StringLatin1"]
theorem tabEq_of {a : Array Value} {s : State} (h : ∀ w ∈ wordsEq, w.before a s = true) : SEq.tab.before a s = true := by
  have hl : LEq.tab.before a s = true := unparts (wk h (.code LEq.yN LEq.yB 3 (some .boolean))) (wks h (.initialized LEq.yN.cls :: LEq.site))
  have q := consq hl h
  exact unparts (wk q (.code SEq.yN SEq.yB 3 (some .boolean))) (wks q (.initialized SEq.yN.cls :: SEq.site))
theorem movedEq {Z s : State} {a0 args : Array Value} (hZ : Z.Warmed39 s.vm) (hw : ∀ d ∈ wordsEq, d.before a0 Z = true) : ∀ d ∈ wordsEq, d.before args s = true := fun d hd => by
  have t : ∀ d ∈ wordsEq, (d.onTables && d.keepsFace) = true := by decide +kernel
  exact RoadKit.mv hZ (hw d hd) (t d hd)
/-- the road's facts of a String, as the laws ask it -/
theorem txt_of {Z U : State} {a0 : Array Value} {kI : Nat} (wi : (Jvm.Cond.instantiable ST kI).before a0 Z = true) (al : Z.vm.Alike U.vm) {x t : Addr} {kb : ClassId} {cs : List Int32} {cd N2 : Int32} {vs : List Value} (E : RoadKit.Exa Z U.heap x ST) (V : RoadKit.Fld Z U.heap x ST "value" "[B" (.ref t)) (C : RoadKit.Fld Z U.heap x ST "coder" "B" (.int cd)) (K : RoadKit.Arv Z U.heap t kb .byte N2 vs (.int 0)) (hc : CodA cs cd N2 vs) (hb : ∀ c ∈ cs, ¬ c < 0 ∧ ¬ (65535 : Int32) < c) (l2 : cs.length ≤ 4000) :
    ∃ A, Txt x t A cd cs.length (fun j => cs.getD j 0) U := by
  obtain ⟨A, K1, K2, K3, K4, K5, K6⟩ := K
  have hcod := hc.cod (by omega) K3 K5
  obtain ⟨D, fV, fC, hB, F1, F2, g1, g2, -, -⟩ := strObj wi al E V C
  exact ⟨A, ⟨_, hB.2.2.1, D, hB.1, rfl, by cases q : D.vm <;> first | rfl | exact absurd q (hB.2.1.2 _)⟩, Has.of hB F1 g1, Has.of hB F2 g2, ⟨K1.1, State.isArrayOf_alike al K1.2.1, K1.2.2, by rcases hcod with ⟨-, q, -⟩ | ⟨-, q, -⟩ <;> omega⟩, hcod, fun j hj => by
    have e : cs.getD j 0 = cs[j] := by simp [List.getD_eq_getElem?_getD, hj]
    show ¬ cs.getD j 0 < 0 ∧ ¬ 65535 < cs.getD j 0
    rw [e]; exact hb _ (List.getElem_mem _)⟩
theorem same_list (cs ds : List Int32) : SameT cs.length (fun j => cs.getD j 0) ds.length (fun j => ds.getD j 0) ↔ cs = ds := by
  constructor
  · rintro ⟨e, q⟩
    refine List.ext_getElem e fun j h1 h2 => ?_
    have := q j h1
    simpa [List.getD_eq_getElem?_getD, h1, h2] using this
  · rintro rfl
    exact ⟨rfl, fun _ _ => rfl⟩
/-- **equals(Object) OF TWO SUCH STRINGS**: 1 just where the chars are the same -/
theorem eqW {p : Program} {l : Launch} {e : Env} {R : Room} {s : State} {args : Array Value} {below : List Frame} {len W : Nat} {Z : State} {a0 : Array Value} {h : Heap} (hZ : Z.Warmed39 s.vm) (hw : ∀ d ∈ wordsEq, d.before a0 Z = true) {kI : Nat} (wi : (Jvm.Cond.instantiable ST kI).before a0 Z = true)
    {x t : Addr} {kb : ClassId} {cs : List Int32} {cd N2 : Int32} {vs : List Value} (E : RoadKit.Exa Z h x ST) (V : RoadKit.Fld Z h x ST "value" "[B" (.ref t)) (C : RoadKit.Fld Z h x ST "coder" "B" (.int cd)) (K : RoadKit.Arv Z h t kb .byte N2 vs (.int 0)) (hc : CodA cs cd N2 vs) (hb : ∀ c ∈ cs, ¬ c < 0 ∧ ¬ (65535 : Int32) < c) (l2 : cs.length ≤ 4000)
    {y t' : Addr} {kb' : ClassId} {ds : List Int32} {cd' N2' : Int32} {vs' : List Value} (E' : RoadKit.Exa Z h y ST) (V' : RoadKit.Fld Z h y ST "value" "[B" (.ref t')) (C' : RoadKit.Fld Z h y ST "coder" "B" (.int cd')) (K' : RoadKit.Arv Z h t' kb' .byte N2' vs' (.int 0)) (hc' : CodA ds cd' N2' vs') (hb' : ∀ c ∈ ds, ¬ c < 0 ∧ ¬ (65535 : Int32) < c) (l2' : ds.length ≤ 4000)
    {z : Int32} (S : RoadKit.Sta Z h ST "COMPACT_STRINGS" "Z" (.int z)) (hz : ¬ z = 0) (hfr : 2 ≤ R.frames) (hlo : W + 28 ≤ R.locals) :
    Back l R p e below s args (⟨"java/lang/String", "equals", "(Ljava/lang/Object;)Z"⟩ : MethodName) len W (fun P a => a = #[.ref x, .ref y] ∧ P.U.heap = h ∧ P.cells + 0 ≤ R.cells ∧ P.slots + 0 ≤ R.slots)
      (fun P _ v B => ∃ L, (((v = some (.int 1) ∧ cs = ds) ∨ (v = some (.int 0) ∧ ¬ cs = ds)) ∧ L = [] ∧ B.U.heap = h) ∧ B.locs = P.locs ++ L ∧ B.cells = P.cells + 0 ∧ B.slots = P.slots + 0) := by
  intro m meth c P g ig mk a X hg hsize hdg hW hn hp'
  obtain ⟨rfl, rfl, r1, r2⟩ := hp'
  have al : Z.vm.Alike P.U.vm := hZ.alike.trans X.warmed.alike
  obtain ⟨A, hx⟩ := txt_of wi al E V C K hc hb l2
  obtain ⟨A', hy⟩ := txt_of wi al E' V' C' K' hc' hb' l2'
  obtain ⟨v, B, X', ⟨⟨w, hv, hh, hq⟩, hl, hk, hs⟩, st⟩ := SEq.pays x t A cd cs.length (fun j => cs.getD j 0) y t' A' cd' ds.length (fun j => ds.getD j 0) z (tabEq_of (movedEq hZ hw)) hfr hlo m meth c P g ig mk _ X hg hsize hdg hW hn ⟨r1, r2, rfl, hx, hy, sta_is al S, hz⟩
  refine ⟨v, B, X', ⟨[], ⟨?_, rfl, hh⟩, hl, hk, hs⟩, st⟩
  rcases hq with ⟨rfl, q⟩ | ⟨rfl, q⟩
  · exact Or.inl ⟨hv, (same_list cs ds).mp q⟩
  · exact Or.inr ⟨hv, fun e => q ((same_list cs ds).mpr e)⟩
end StrChars.Road
namespace StrChars.Road
open Jvm Sem ClassFile Op Lib Jvm.Stand Jvm.Free Jvm.Free.XT
open Jvm.Lib.Cold (StaticIs)
/-- what backV says of its String, as the contracts of this text ask it: cs's low bytes, coder 0 -/
theorem codOf {cs : List Int32} {n : Nat} (hn : cs.length = n) (hb : ∀ c ∈ cs, ¬ 255 < c) : CodA cs 0 (Int32.ofNat n) ((cs.map lo8).map Value.int) := Or.inl ⟨rfl, by rw [hn], by simp [List.map_map, Function.comp_def], hb⟩
end StrChars.Road
end Jvm.Pilot.@@N@@
namespace Jvm.Pilot.@@N@@
open Jvm Jvm.ClassFile Sem Op Lib Jvm.Free Jvm.Stand Jvm.LawKit Jvm.RoadKit Bundle Jvm.Pilot.@@N@@.Jvm.D
section OwnLayer
variable {p : Program} {l : Launch} {e : Env} {R : Room} {s : State} {m : MethodId} {args : Array Value} {below : List Frame} {meth : Method} {c : Code}
variable {Z : State} {a0 : Array Value} {EL : List (String × Nat)} {L0 : List Loc} {own nm : String} {bs : ByteArray} {ml : Nat} {rt : Option FieldType}
variable {T : State} {h : Heap} {SF : List Addr} {k j : Nat} {Q : Option Value → Heap → List Addr → Prop}
/-- where a walk stands: its frame's constants, the heap h, the cells SF that may be written, k new cells, j new slots; the tables may have interned meanwhile -/
def Owk (p : Program) (l : Launch) (e : Env) (R : Room) (s : State) (m : MethodId) (args : Array Value) (below : List Frame) (meth : Method) (c : Code) (Z : State) (a0 : Array Value) (EL : List (String × Nat)) (L0 : List Loc) (own nm : String) (bs : ByteArray) (ml : Nat) (rt : Option FieldType) (T : State) (h : Heap) (SF : List Addr) (k j : Nat) : Prop :=
  (p.tables.exec = Jvm.exec ∧ EW Z a0 EL ∧ s.vm.findClass own = some m.cls ∧ c.code = bs ∧ c.maxLocals = ml ∧ meth.sig.returnType = rt ∧ meth.locks = false ∧ meth.name = nm) ∧
  T.heap = h ∧ (∀ x ∈ SF, x < h.size) ∧ k ≤ R.cells ∧ j ≤ R.slots ∧
  ∃ (vm0 : Vm) (k0 : Nat), Stand p l e R (s.setVm vm0) m args below meth c T L0 k j ∧ Z.Warmed39 vm0 ∧ s.Since vm0 k0 ∧ k0 ≤ h.size ∧ CHr Z EL s.vm s.heap vm0 h ∧ ∀ x ∈ SF, Safe Z EL vm0 h x
/-- from the frame g at T the body comes to its return, with Q of what it returns and the heap then -/
def Ogo (p : Program) (l : Launch) (e : Env) (R : Room) (s : State) (m : MethodId) (args : Array Value) (below : List Frame) (meth : Method) (c : Code) (Z : State) (a0 : Array Value) (EL : List (String × Nat)) (L0 : List Loc) (own nm : String) (bs : ByteArray) (ml : Nat) (rt : Option FieldType) (T : State) (g : JFrame) (Q : Option Value → Heap → List Addr → Prop) : Prop :=
  ∃ (T' : State) (v : Option Value) (h' : Heap) (SF : List Addr) (k j : Nat), Owk p l e R s m args below meth c Z a0 EL L0 own nm bs ml rt T' h' SF k j ∧ (rt = none → v = none) ∧ Q v h' SF ∧
    ∀ fs, (∀ (f : JFrame) (acts : List Action), f.method = m → f.locked = none → f.entered = [] → (doReturn e (T'.setTop f) acts v).1 = T'.setFrames fs) → Steps p.tables e below (T.setTop g) (T'.setFrames fs)
theorem own_step {T2 : State} {g g2 : JFrame} (hs : ∀ t, Steps p.tables e below (T2.setTop g2) t → Steps p.tables e below (T.setTop g) t) (K : Ogo p l e R s m args below meth c Z a0 EL L0 own nm bs ml rt T2 g2 Q) : Ogo p l e R s m args below meth c Z a0 EL L0 own nm bs ml rt T g Q := by
  obtain ⟨T', v, h', SF', k', j', W, hv, hq, st⟩ := K
  exact ⟨T', v, h', SF', k', j', W, hv, hq, fun fs hl => hs _ (st fs hl)⟩
theorem Owk.at (W : Owk p l e R s m args below meth c Z a0 EL L0 own nm bs ml rt T h SF k j) : At T m c below := by obtain ⟨-, -, -, -, -, vm0, k0, X, -⟩ := W; exact X.here
theorem Owk.ex (W : Owk p l e R s m args below meth c Z a0 EL L0 own nm bs ml rt T h SF k j) : p.tables.exec = Jvm.exec := W.1.1
theorem Owk.hb (W : Owk p l e R s m args below meth c Z a0 EL L0 own nm bs ml rt T h SF k j) {pc : Nat} {r : Except ClassFile.DecodeError (ClassFile.Instr × Nat)} (h2 : decode bs pc = r) : decode c.code pc = r := by rw [W.1.2.2.2.1]; exact h2
theorem Owk.sf (W : Owk p l e R s m args below meth c Z a0 EL L0 own nm bs ml rt T h SF k j) {SF' : List Addr} (q : ∀ x ∈ SF', x ∈ SF) : Owk p l e R s m args below meth c Z a0 EL L0 own nm bs ml rt T h SF' k j := by
  obtain ⟨w1, w2, w3, w4, w5, vm0, k0, X, w6, w7, w8, w9, w10⟩ := W
  exact ⟨w1, w2, fun x hx => w3 x (q x hx), w4, w5, vm0, k0, X, w6, w7, w8, w9, fun x hx => w10 x (q x hx)⟩
theorem Owk.up (W : Owk p l e R s m args below meth c Z a0 EL L0 own nm bs ml rt T h SF k j) {k' j' : Nat} (q1 : k ≤ k') (q2 : j ≤ j') (r1 : k' ≤ R.cells) (r2 : j' ≤ R.slots) : Owk p l e R s m args below meth c Z a0 EL L0 own nm bs ml rt T h SF k' j' := by
  obtain ⟨w1, w2, w3, w4, w5, vm0, k0, X, w6, w7, w8, w9, w10⟩ := W
  exact ⟨w1, w2, w3, r1, r2, vm0, k0, X.mono q1 q2, w6, w7, w8, w9, w10⟩
theorem Owk.grown (W : Owk p l e R s m args below meth c Z a0 EL L0 own nm bs ml rt T h SF k j) : s.heap.size ≤ h.size := by
  obtain ⟨-, -, -, -, -, vm0, k0, -, -, -, -, w9, -⟩ := W; exact w9.2.1
/-! plain steps -/
section Plain
variable {pc pc' : Nat} {ls : Array Slot} {st : List Value}
theorem g_iloadN (W : Owk p l e R s m args below meth c Z a0 EL L0 own nm bs ml rt T h SF k j) {i : Fin 4} {v : Int32} (hd : decode bs pc = .ok (.iload_n i, 1)) (hp : pc' = pc + 1) (hl : ls[i.val]? = some (.val (.int v))) (K : Ogo p l e R s m args below meth c Z a0 EL L0 own nm bs ml rt T (mkF m pc' ls (.int v :: st)) Q) : Ogo p l e R s m args below meth c Z a0 EL L0 own nm bs ml rt T (mkF m pc ls st) Q := by
  subst hp; exact own_step (fun t q => XS.iloadN W.at W.ex rfl (W.hb hd) hl q) K
theorem g_iload (W : Owk p l e R s m args below meth c Z a0 EL L0 own nm bs ml rt T h SF k j) {i : Nat} {v : Int32} (hd : decode bs pc = .ok (.iload i, 2)) (hp : pc' = pc + 2) (hl : ls[i]? = some (.val (.int v))) (K : Ogo p l e R s m args below meth c Z a0 EL L0 own nm bs ml rt T (mkF m pc' ls (.int v :: st)) Q) : Ogo p l e R s m args below meth c Z a0 EL L0 own nm bs ml rt T (mkF m pc ls st) Q := by
  subst hp; exact own_step (fun t q => XS.iload W.at W.ex rfl (W.hb hd) hl q) K
theorem g_aloadN (W : Owk p l e R s m args below meth c Z a0 EL L0 own nm bs ml rt T h SF k j) {i : Fin 4} {v : Value} (hd : decode bs pc = .ok (.aload_n i, 1)) (hp : pc' = pc + 1) (hl : ls[i.val]? = some (.val v)) (hv : v.isRef = true) (K : Ogo p l e R s m args below meth c Z a0 EL L0 own nm bs ml rt T (mkF m pc' ls (v :: st)) Q) : Ogo p l e R s m args below meth c Z a0 EL L0 own nm bs ml rt T (mkF m pc ls st) Q := by
  subst hp; exact own_step (fun t q => XS.aloadN W.at W.ex rfl (W.hb hd) hl hv q) K
theorem g_aload (W : Owk p l e R s m args below meth c Z a0 EL L0 own nm bs ml rt T h SF k j) {i : Nat} {v : Value} (hd : decode bs pc = .ok (.aload i, 2)) (hp : pc' = pc + 2) (hl : ls[i]? = some (.val v)) (hv : v.isRef = true) (K : Ogo p l e R s m args below meth c Z a0 EL L0 own nm bs ml rt T (mkF m pc' ls (v :: st)) Q) : Ogo p l e R s m args below meth c Z a0 EL L0 own nm bs ml rt T (mkF m pc ls st) Q := by
  subst hp; exact own_step (fun t q => XS.aload W.at W.ex rfl (W.hb hd) hl hv q) K
theorem g_iconst (W : Owk p l e R s m args below meth c Z a0 EL L0 own nm bs ml rt T h SF k j) {i : Int} {v : Int32} (hd : decode bs pc = .ok (.iconst i, 1)) (hp : pc' = pc + 1) (hv : Int32.ofInt i = v) (K : Ogo p l e R s m args below meth c Z a0 EL L0 own nm bs ml rt T (mkF m pc' ls (.int v :: st)) Q) : Ogo p l e R s m args below meth c Z a0 EL L0 own nm bs ml rt T (mkF m pc ls st) Q := by
  subst hp hv; exact own_step (fun t q => XS.iconst W.at W.ex rfl (W.hb hd) q) K
theorem g_bipush (W : Owk p l e R s m args below meth c Z a0 EL L0 own nm bs ml rt T h SF k j) {i : Int} {v : Int32} (hd : decode bs pc = .ok (.bipush i, 2)) (hp : pc' = pc + 2) (hv : (Int8.ofInt i).toInt32 = v) (K : Ogo p l e R s m args below meth c Z a0 EL L0 own nm bs ml rt T (mkF m pc' ls (.int v :: st)) Q) : Ogo p l e R s m args below meth c Z a0 EL L0 own nm bs ml rt T (mkF m pc ls st) Q := by
  subst hp hv; exact own_step (fun t q => XS.bipush W.at W.ex rfl (W.hb hd) q) K
theorem g_sipush (W : Owk p l e R s m args below meth c Z a0 EL L0 own nm bs ml rt T h SF k j) {i : Int} {v : Int32} (hd : decode bs pc = .ok (.sipush i, 3)) (hp : pc' = pc + 3) (hv : (Int16.ofInt i).toInt32 = v) (K : Ogo p l e R s m args below meth c Z a0 EL L0 own nm bs ml rt T (mkF m pc' ls (.int v :: st)) Q) : Ogo p l e R s m args below meth c Z a0 EL L0 own nm bs ml rt T (mkF m pc ls st) Q := by
  subst hp hv; exact own_step (fun t q => XS.sipush W.at W.ex rfl (W.hb hd) q) K
theorem g_aconst_null (W : Owk p l e R s m args below meth c Z a0 EL L0 own nm bs ml rt T h SF k j) (hd : decode bs pc = .ok (.aconst_null, 1)) (hp : pc' = pc + 1) (K : Ogo p l e R s m args below meth c Z a0 EL L0 own nm bs ml rt T (mkF m pc' ls (.null :: st)) Q) : Ogo p l e R s m args below meth c Z a0 EL L0 own nm bs ml rt T (mkF m pc ls st) Q := by
  subst hp; exact own_step (fun t q => XS.aconstNull W.at W.ex rfl (W.hb hd) q) K
theorem g_istoreN (W : Owk p l e R s m args below meth c Z a0 EL L0 own nm bs ml rt T h SF k j) {i : Fin 4} {v : Int32} {ls' : Array Slot} (hd : decode bs pc = .ok (.istore_n i, 1)) (hp : pc' = pc + 1) (hl : storeLocals ls i.val (.int v) = some ls') (K : Ogo p l e R s m args below meth c Z a0 EL L0 own nm bs ml rt T (mkF m pc' ls' st) Q) : Ogo p l e R s m args below meth c Z a0 EL L0 own nm bs ml rt T (mkF m pc ls (.int v :: st)) Q := by
  subst hp; exact own_step (fun t q => XS.istoreN W.at W.ex rfl (W.hb hd) rfl hl q) K
theorem g_istore (W : Owk p l e R s m args below meth c Z a0 EL L0 own nm bs ml rt T h SF k j) {i : Nat} {v : Int32} {ls' : Array Slot} (hd : decode bs pc = .ok (.istore i, 2)) (hp : pc' = pc + 2) (hl : storeLocals ls i (.int v) = some ls') (K : Ogo p l e R s m args below meth c Z a0 EL L0 own nm bs ml rt T (mkF m pc' ls' st) Q) : Ogo p l e R s m args below meth c Z a0 EL L0 own nm bs ml rt T (mkF m pc ls (.int v :: st)) Q := by
  subst hp; exact own_step (fun t q => XS.istore W.at W.ex rfl (W.hb hd) rfl hl q) K
theorem g_astoreN (W : Owk p l e R s m args below meth c Z a0 EL L0 own nm bs ml rt T h SF k j) {i : Fin 4} {v : Value} {ls' : Array Slot} (hd : decode bs pc = .ok (.astore_n i, 1)) (hp : pc' = pc + 1) (hv : v.isRef = true) (hl : storeLocals ls i.val v = some ls') (K : Ogo p l e R s m args below meth c Z a0 EL L0 own nm bs ml rt T (mkF m pc' ls' st) Q) : Ogo p l e R s m args below meth c Z a0 EL L0 own nm bs ml rt T (mkF m pc ls (v :: st)) Q := by
  subst hp; exact own_step (fun t q => XS.astoreN W.at W.ex rfl (W.hb hd) rfl hv hl q) K
theorem g_astore (W : Owk p l e R s m args below meth c Z a0 EL L0 own nm bs ml rt T h SF k j) {i : Nat} {v : Value} {ls' : Array Slot} (hd : decode bs pc = .ok (.astore i, 2)) (hp : pc' = pc + 2) (hv : v.isRef = true) (hl : storeLocals ls i v = some ls') (K : Ogo p l e R s m args below meth c Z a0 EL L0 own nm bs ml rt T (mkF m pc' ls' st) Q) : Ogo p l e R s m args below meth c Z a0 EL L0 own nm bs ml rt T (mkF m pc ls (v :: st)) Q := by
  subst hp; exact own_step (fun t q => XS.astore W.at W.ex rfl (W.hb hd) rfl hv hl q) K
theorem g_iinc (W : Owk p l e R s m args below meth c Z a0 EL L0 own nm bs ml rt T h SF k j) {i : Nat} {d : Int} {x v : Int32} {ls' : Array Slot} (hd : decode bs pc = .ok (.iinc i d, 3)) (hp : pc' = pc + 3) (hl : ls[i]? = some (.val (.int x))) (hv : x + Int32.ofInt d = v) (hl' : storeLocals ls i (.int v) = some ls') (K : Ogo p l e R s m args below meth c Z a0 EL L0 own nm bs ml rt T (mkF m pc' ls' st) Q) : Ogo p l e R s m args below meth c Z a0 EL L0 own nm bs ml rt T (mkF m pc ls st) Q := by
  subst hp hv; exact own_step (fun t q => XS.iinc W.at W.ex rfl (W.hb hd) hl hl' q) K
theorem g_goto (W : Owk p l e R s m args below meth c Z a0 EL L0 own nm bs ml rt T h SF k j) {o : Int} (hd : decode bs pc = .ok (.goto o, 3)) (ho : 0 ≤ (pc : Int) + o) (hp : ((pc : Int) + o).toNat = pc') (K : Ogo p l e R s m args below meth c Z a0 EL L0 own nm bs ml rt T (mkF m pc' ls st) Q) : Ogo p l e R s m args below meth c Z a0 EL L0 own nm bs ml rt T (mkF m pc ls st) Q := by
  exact own_step (fun t q => XS.goto W.at W.ex rfl (pc0 := pc) rfl (W.hb hd) ho hp q) K
theorem g_dup (W : Owk p l e R s m args below meth c Z a0 EL L0 own nm bs ml rt T h SF k j) {x : Value} (hd : decode bs pc = .ok (.dup, 1)) (hp : pc' = pc + 1) (hc : x.category = 1) (K : Ogo p l e R s m args below meth c Z a0 EL L0 own nm bs ml rt T (mkF m pc' ls (x :: x :: st)) Q) : Ogo p l e R s m args below meth c Z a0 EL L0 own nm bs ml rt T (mkF m pc ls (x :: st)) Q := by
  subst hp; exact own_step (fun t q => XS.dup W.at W.ex rfl (W.hb hd) rfl hc q) K
theorem g_pop (W : Owk p l e R s m args below meth c Z a0 EL L0 own nm bs ml rt T h SF k j) {x : Value} (hd : decode bs pc = .ok (.pop, 1)) (hp : pc' = pc + 1) (hc : x.category = 1) (K : Ogo p l e R s m args below meth c Z a0 EL L0 own nm bs ml rt T (mkF m pc' ls st) Q) : Ogo p l e R s m args below meth c Z a0 EL L0 own nm bs ml rt T (mkF m pc ls (x :: st)) Q := by
  subst hp; exact own_step (fun t q => XT.pop W.at W.ex rfl (W.hb hd) rfl hc q) K
theorem g_iadd (W : Owk p l e R s m args below meth c Z a0 EL L0 own nm bs ml rt T h SF k j) {x y : Int32} (hd : decode bs pc = .ok (.iadd, 1)) (hp : pc' = pc + 1) (K : Ogo p l e R s m args below meth c Z a0 EL L0 own nm bs ml rt T (mkF m pc' ls (.int (x + y) :: st)) Q) : Ogo p l e R s m args below meth c Z a0 EL L0 own nm bs ml rt T (mkF m pc ls (.int y :: .int x :: st)) Q := by
  subst hp; exact own_step (fun t q => XS.iadd W.at W.ex rfl (W.hb hd) rfl q) K
theorem g_isub (W : Owk p l e R s m args below meth c Z a0 EL L0 own nm bs ml rt T h SF k j) {x y : Int32} (hd : decode bs pc = .ok (.isub, 1)) (hp : pc' = pc + 1) (K : Ogo p l e R s m args below meth c Z a0 EL L0 own nm bs ml rt T (mkF m pc' ls (.int (x - y) :: st)) Q) : Ogo p l e R s m args below meth c Z a0 EL L0 own nm bs ml rt T (mkF m pc ls (.int y :: .int x :: st)) Q := by
  subst hp; exact own_step (fun t q => XS.isub W.at W.ex rfl (W.hb hd) rfl q) K
theorem g_iand (W : Owk p l e R s m args below meth c Z a0 EL L0 own nm bs ml rt T h SF k j) {x y : Int32} (hd : decode bs pc = .ok (.iand, 1)) (hp : pc' = pc + 1) (K : Ogo p l e R s m args below meth c Z a0 EL L0 own nm bs ml rt T (mkF m pc' ls (.int (x &&& y) :: st)) Q) : Ogo p l e R s m args below meth c Z a0 EL L0 own nm bs ml rt T (mkF m pc ls (.int y :: .int x :: st)) Q := by
  subst hp; exact own_step (fun t q => XS.iand W.at W.ex rfl (W.hb hd) rfl q) K
theorem g_ior (W : Owk p l e R s m args below meth c Z a0 EL L0 own nm bs ml rt T h SF k j) {x y : Int32} (hd : decode bs pc = .ok (.ior, 1)) (hp : pc' = pc + 1) (K : Ogo p l e R s m args below meth c Z a0 EL L0 own nm bs ml rt T (mkF m pc' ls (.int (x ||| y) :: st)) Q) : Ogo p l e R s m args below meth c Z a0 EL L0 own nm bs ml rt T (mkF m pc ls (.int y :: .int x :: st)) Q := by
  subst hp; exact own_step (fun t q => XT.ior W.at W.ex rfl (W.hb hd) rfl q) K
theorem g_imul (W : Owk p l e R s m args below meth c Z a0 EL L0 own nm bs ml rt T h SF k j) {x y : Int32} (hd : decode bs pc = .ok (.imul, 1)) (hp : pc' = pc + 1) (K : Ogo p l e R s m args below meth c Z a0 EL L0 own nm bs ml rt T (mkF m pc' ls (.int (x * y) :: st)) Q) : Ogo p l e R s m args below meth c Z a0 EL L0 own nm bs ml rt T (mkF m pc ls (.int y :: .int x :: st)) Q := by
  subst hp; exact own_step (fun t q => XS.imul W.at W.ex rfl (W.hb hd) rfl q) K
theorem g_ishl (W : Owk p l e R s m args below meth c Z a0 EL L0 own nm bs ml rt T h SF k j) {x y : Int32} (hd : decode bs pc = .ok (.ishl, 1)) (hp : pc' = pc + 1) (K : Ogo p l e R s m args below meth c Z a0 EL L0 own nm bs ml rt T (mkF m pc' ls (.int (x <<< (y &&& 31)) :: st)) Q) : Ogo p l e R s m args below meth c Z a0 EL L0 own nm bs ml rt T (mkF m pc ls (.int y :: .int x :: st)) Q := by
  subst hp; exact own_step (fun t q => XT.ishl W.at W.ex rfl (W.hb hd) rfl q) K
theorem g_ishr (W : Owk p l e R s m args below meth c Z a0 EL L0 own nm bs ml rt T h SF k j) {x y : Int32} (hd : decode bs pc = .ok (.ishr, 1)) (hp : pc' = pc + 1) (K : Ogo p l e R s m args below meth c Z a0 EL L0 own nm bs ml rt T (mkF m pc' ls (.int (x >>> (y &&& 31)) :: st)) Q) : Ogo p l e R s m args below meth c Z a0 EL L0 own nm bs ml rt T (mkF m pc ls (.int y :: .int x :: st)) Q := by
  subst hp; exact own_step (fun t q => XT.ishr W.at W.ex rfl (W.hb hd) rfl q) K
theorem g_iushr (W : Owk p l e R s m args below meth c Z a0 EL L0 own nm bs ml rt T h SF k j) {x y : Int32} (hd : decode bs pc = .ok (.iushr, 1)) (hp : pc' = pc + 1) (K : Ogo p l e R s m args below meth c Z a0 EL L0 own nm bs ml rt T (mkF m pc' ls (.int (XT.ushr x y) :: st)) Q) : Ogo p l e R s m args below meth c Z a0 EL L0 own nm bs ml rt T (mkF m pc ls (.int y :: .int x :: st)) Q := by
  subst hp; exact own_step (fun t q => XT.iushr W.at W.ex rfl (W.hb hd) rfl q) K
theorem g_irem (W : Owk p l e R s m args below meth c Z a0 EL L0 own nm bs ml rt T h SF k j) {x y : Int32} (hd : decode bs pc = .ok (.irem, 1)) (hp : pc' = pc + 1) (hy : y ≠ 0) (K : Ogo p l e R s m args below meth c Z a0 EL L0 own nm bs ml rt T (mkF m pc' ls (.int (x % y) :: st)) Q) : Ogo p l e R s m args below meth c Z a0 EL L0 own nm bs ml rt T (mkF m pc ls (.int y :: .int x :: st)) Q := by
  obtain ⟨-, -, -, -, -, vm0, k0, X, -⟩ := id W
  subst hp; exact own_step (fun t q => iremM X W.ex rfl (W.hb hd) rfl hy q) K
theorem g_i2b (W : Owk p l e R s m args below meth c Z a0 EL L0 own nm bs ml rt T h SF k j) {x : Int32} (hd : decode bs pc = .ok (.i2b, 1)) (hp : pc' = pc + 1) (K : Ogo p l e R s m args below meth c Z a0 EL L0 own nm bs ml rt T (mkF m pc' ls (.int x.toInt8.toInt32 :: st)) Q) : Ogo p l e R s m args below meth c Z a0 EL L0 own nm bs ml rt T (mkF m pc ls (.int x :: st)) Q := by
  subst hp; exact own_step (fun t q => XT.i2b W.at W.ex rfl (W.hb hd) rfl q) K
theorem g_i2c (W : Owk p l e R s m args below meth c Z a0 EL L0 own nm bs ml rt T h SF k j) {x : Int32} (hd : decode bs pc = .ok (.i2c, 1)) (hp : pc' = pc + 1) (K : Ogo p l e R s m args below meth c Z a0 EL L0 own nm bs ml rt T (mkF m pc' ls (.int x.toUInt32.toUInt16.toUInt32.toInt32 :: st)) Q) : Ogo p l e R s m args below meth c Z a0 EL L0 own nm bs ml rt T (mkF m pc ls (.int x :: st)) Q := by
  subst hp; exact own_step (fun t q => XT.i2c W.at W.ex rfl (W.hb hd) rfl q) K
theorem g_ifY (W : Owk p l e R s m args below meth c Z a0 EL L0 own nm bs ml rt T h SF k j) {cd : ClassFile.Cond} {x : Int32} {o : Int} (hd : decode bs pc = .ok (.ifCond cd o, 3)) (hc : if_icmp.holds cd x 0 = true) (ho : 0 ≤ (pc : Int) + o) (hp : ((pc : Int) + o).toNat = pc') (K : Ogo p l e R s m args below meth c Z a0 EL L0 own nm bs ml rt T (mkF m pc' ls st) Q) : Ogo p l e R s m args below meth c Z a0 EL L0 own nm bs ml rt T (mkF m pc ls (.int x :: st)) Q := by
  exact own_step (fun t q => XS.ifYes W.at W.ex rfl (pc0 := pc) rfl (W.hb hd) rfl (by rw [if0]; exact hc) ho hp q) K
theorem g_ifN (W : Owk p l e R s m args below meth c Z a0 EL L0 own nm bs ml rt T h SF k j) {cd : ClassFile.Cond} {x : Int32} {o : Int} (hd : decode bs pc = .ok (.ifCond cd o, 3)) (hc : if_icmp.holds cd x 0 = false) (hp : pc' = pc + 3) (K : Ogo p l e R s m args below meth c Z a0 EL L0 own nm bs ml rt T (mkF m pc' ls st) Q) : Ogo p l e R s m args below meth c Z a0 EL L0 own nm bs ml rt T (mkF m pc ls (.int x :: st)) Q := by
  subst hp; exact own_step (fun t q => XS.ifNo W.at W.ex rfl (W.hb hd) rfl (by rw [if0]; exact hc) q) K
theorem g_icY (W : Owk p l e R s m args below meth c Z a0 EL L0 own nm bs ml rt T h SF k j) {cd : ClassFile.Cond} {x y : Int32} {o : Int} (hd : decode bs pc = .ok (.if_icmp cd o, 3)) (hc : if_icmp.holds cd x y = true) (ho : 0 ≤ (pc : Int) + o) (hp : ((pc : Int) + o).toNat = pc') (K : Ogo p l e R s m args below meth c Z a0 EL L0 own nm bs ml rt T (mkF m pc' ls st) Q) : Ogo p l e R s m args below meth c Z a0 EL L0 own nm bs ml rt T (mkF m pc ls (.int y :: .int x :: st)) Q := by
  exact own_step (fun t q => XS.icmpYes W.at W.ex rfl (pc0 := pc) rfl (W.hb hd) rfl hc ho hp q) K
theorem g_icN (W : Owk p l e R s m args below meth c Z a0 EL L0 own nm bs ml rt T h SF k j) {cd : ClassFile.Cond} {x y : Int32} {o : Int} (hd : decode bs pc = .ok (.if_icmp cd o, 3)) (hc : if_icmp.holds cd x y = false) (hp : pc' = pc + 3) (K : Ogo p l e R s m args below meth c Z a0 EL L0 own nm bs ml rt T (mkF m pc' ls st) Q) : Ogo p l e R s m args below meth c Z a0 EL L0 own nm bs ml rt T (mkF m pc ls (.int y :: .int x :: st)) Q := by
  subst hp; exact own_step (fun t q => XS.icmpNo W.at W.ex rfl (W.hb hd) rfl hc q) K
theorem g_nullY (W : Owk p l e R s m args below meth c Z a0 EL L0 own nm bs ml rt T h SF k j) {o : Int} (hd : decode bs pc = .ok (.ifnull o, 3)) (ho : 0 ≤ (pc : Int) + o) (hp : ((pc : Int) + o).toNat = pc') (K : Ogo p l e R s m args below meth c Z a0 EL L0 own nm bs ml rt T (mkF m pc' ls st) Q) : Ogo p l e R s m args below meth c Z a0 EL L0 own nm bs ml rt T (mkF m pc ls (.null :: st)) Q := by
  exact own_step (fun t q => XS.ifnullYes W.at W.ex rfl (pc0 := pc) rfl (W.hb hd) rfl ho hp q) K
theorem g_nullN (W : Owk p l e R s m args below meth c Z a0 EL L0 own nm bs ml rt T h SF k j) {b : Addr} {o : Int} (hd : decode bs pc = .ok (.ifnull o, 3)) (hp : pc' = pc + 3) (K : Ogo p l e R s m args below meth c Z a0 EL L0 own nm bs ml rt T (mkF m pc' ls st) Q) : Ogo p l e R s m args below meth c Z a0 EL L0 own nm bs ml rt T (mkF m pc ls (.ref b :: st)) Q := by
  subst hp; exact own_step (fun t q => XS.ifnullNo W.at W.ex rfl (W.hb hd) rfl q) K
theorem g_nnY (W : Owk p l e R s m args below meth c Z a0 EL L0 own nm bs ml rt T h SF k j) {b : Addr} {o : Int} (hd : decode bs pc = .ok (.ifnonnull o, 3)) (ho : 0 ≤ (pc : Int) + o) (hp : ((pc : Int) + o).toNat = pc') (K : Ogo p l e R s m args below meth c Z a0 EL L0 own nm bs ml rt T (mkF m pc' ls st) Q) : Ogo p l e R s m args below meth c Z a0 EL L0 own nm bs ml rt T (mkF m pc ls (.ref b :: st)) Q := by
  exact own_step (fun t q => XT.ifnonnullYes W.at W.ex rfl (pc0 := pc) rfl (W.hb hd) rfl ho hp q) K
theorem g_nnN (W : Owk p l e R s m args below meth c Z a0 EL L0 own nm bs ml rt T h SF k j) {o : Int} (hd : decode bs pc = .ok (.ifnonnull o, 3)) (hp : pc' = pc + 3) (K : Ogo p l e R s m args below meth c Z a0 EL L0 own nm bs ml rt T (mkF m pc' ls st) Q) : Ogo p l e R s m args below meth c Z a0 EL L0 own nm bs ml rt T (mkF m pc ls (.null :: st)) Q := by
  subst hp; exact own_step (fun t q => XT.ifnonnullNo W.at W.ex rfl (W.hb hd) rfl q) K
theorem g_acY (W : Owk p l e R s m args below meth c Z a0 EL L0 own nm bs ml rt T h SF k j) {cd : ClassFile.ACond} {x y : Value} {o : Int} (hd : decode bs pc = .ok (.if_acmp cd o, 3)) (h1 : x.isRef = true) (h2 : y.isRef = true) (hc : XT.acmp cd x y = true) (ho : 0 ≤ (pc : Int) + o) (hp : ((pc : Int) + o).toNat = pc') (K : Ogo p l e R s m args below meth c Z a0 EL L0 own nm bs ml rt T (mkF m pc' ls st) Q) : Ogo p l e R s m args below meth c Z a0 EL L0 own nm bs ml rt T (mkF m pc ls (y :: x :: st)) Q := by
  exact own_step (fun t q => XT.acmpYes W.at W.ex rfl (pc0 := pc) rfl (W.hb hd) rfl h1 h2 hc ho hp q) K
theorem g_acN (W : Owk p l e R s m args below meth c Z a0 EL L0 own nm bs ml rt T h SF k j) {cd : ClassFile.ACond} {x y : Value} {o : Int} (hd : decode bs pc = .ok (.if_acmp cd o, 3)) (h1 : x.isRef = true) (h2 : y.isRef = true) (hc : XT.acmp cd x y = false) (hp : pc' = pc + 3) (K : Ogo p l e R s m args below meth c Z a0 EL L0 own nm bs ml rt T (mkF m pc' ls st) Q) : Ogo p l e R s m args below meth c Z a0 EL L0 own nm bs ml rt T (mkF m pc ls (y :: x :: st)) Q := by
  subst hp; exact own_step (fun t q => XT.acmpNo W.at W.ex rfl (W.hb hd) rfl h1 h2 hc q) K
end Plain
/-! steps that read or write the heap or the tables -/
theorem Owk.fc (W : Owk p l e R s m args below meth c Z a0 EL L0 own nm bs ml rt T h SF k j) {vm0 : Vm} {k0 : Nat} (hS : s.Since vm0 k0) : vm0.findClass own = some m.cls := by rw [hS.1.alike.findClass]; exact W.1.2.2.1
theorem own_same (W : Owk p l e R s m args below meth c Z a0 EL L0 own nm bs ml rt T h SF k j) {g g2 : JFrame}
    (f : ∀ vm0, Stand p l e R (s.setVm vm0) m args below meth c T L0 k j → Z.Warmed39 vm0 → vm0.findClass own = some m.cls → ∃ T', Stand p l e R (s.setVm vm0) m args below meth c T' L0 k j ∧ T'.heap = h ∧ ∀ t, Steps p.tables e below (T'.setTop g2) t → Steps p.tables e below (T.setTop g) t)
    (K : ∀ T', Owk p l e R s m args below meth c Z a0 EL L0 own nm bs ml rt T' h SF k j → Ogo p l e R s m args below meth c Z a0 EL L0 own nm bs ml rt T' g2 Q) : Ogo p l e R s m args below meth c Z a0 EL L0 own nm bs ml rt T g Q := by
  obtain ⟨w1, w2, w3, w4, w5, vm0, k0, X, w6, w7, w8, w9, w10⟩ := id W
  obtain ⟨T', X', e', st⟩ := f vm0 X w6 (W.fc w7)
  exact own_step st (K T' ⟨w1, e', w3, w4, w5, vm0, k0, X', w6, w7, w8, w9, w10⟩)
theorem own_here (W : Owk p l e R s m args below meth c Z a0 EL L0 own nm bs ml rt T h SF k j) {g g2 : JFrame}
    (f : ∀ vm0, Stand p l e R (s.setVm vm0) m args below meth c T L0 k j → Z.Warmed39 vm0 → vm0.findClass own = some m.cls → ∀ t, Steps p.tables e below (T.setTop g2) t → Steps p.tables e below (T.setTop g) t)
    (K : Ogo p l e R s m args below meth c Z a0 EL L0 own nm bs ml rt T g2 Q) : Ogo p l e R s m args below meth c Z a0 EL L0 own nm bs ml rt T g Q := by
  obtain ⟨w1, w2, w3, w4, w5, vm0, k0, X, w6, w7, w8, w9, w10⟩ := id W
  exact own_step (f vm0 X w6 (W.fc w7)) K
theorem own_wr (W : Owk p l e R s m args below meth c Z a0 EL L0 own nm bs ml rt T h SF k j) {g g2 : JFrame} {a : Addr} {sl : Nat} {v : Value} (hS : a ∈ SF) (hL : (⟨a, sl⟩ : Loc) ∈ L0 ∨ s.heap.size ≤ a)
    (f : ∀ vm0, Stand p l e R (s.setVm vm0) m args below meth c T L0 k j → Z.Warmed39 vm0 → vm0.findClass own = some m.cls → ∃ T' h', Stand p l e R (s.setVm vm0) m args below meth c T' (L0 ++ [⟨a, sl⟩]) k j ∧ T'.heap = h' ∧ Wr h h' a sl v ∧ ∀ t, Steps p.tables e below (T'.setTop g2) t → Steps p.tables e below (T.setTop g) t)
    (K : ∀ T' h', Wr h h' a sl v → Owk p l e R s m args below meth c Z a0 EL L0 own nm bs ml rt T' h' SF k j → Ogo p l e R s m args below meth c Z a0 EL L0 own nm bs ml rt T' g2 Q) : Ogo p l e R s m args below meth c Z a0 EL L0 own nm bs ml rt T g Q := by
  obtain ⟨w1, w2, w3, w4, w5, vm0, k0, X, w6, w7, w8, w9, w10⟩ := id W
  obtain ⟨T', h', X', e', Wr', st⟩ := f vm0 X w6 (W.fc w7)
  have X2 := X'.sift (L' := L0) (fun x hx => by
    rcases List.mem_append.mp hx with q | q
    · exact Or.inl q
    · cases List.mem_singleton.mp q; exact hL)
  refine own_step st (K T' h' Wr' ⟨w1, e', fun x hx => by rw [Wr'.size]; exact w3 x hx, w4, w5, vm0, k0, X2, w6, w7, by rw [Wr'.size]; exact w8, w9.trans (CHr.wr Wr' (w10 a hS) w9.1), fun x hx => Safe.wr Wr' (w10 a hS) w9.1 (w10 x hx)⟩)
theorem g_getF (W : Owk p l e R s m args below meth c Z a0 EL L0 own nm bs ml rt T h SF k j) {pc pc' idx : Nat} {ls : Array Slot} {st : List Value} {O n d : String} {a : Addr} {v : Value} (hd : decode bs pc = .ok (.getfield idx, 3)) (hp : pc' = pc + 3) (w : (Cond.fieldLink own idx O n d).before a0 Z = true) (F : Fld Z h a O n d v)
    (K : ∀ T', Owk p l e R s m args below meth c Z a0 EL L0 own nm bs ml rt T' h SF k j → Ogo p l e R s m args below meth c Z a0 EL L0 own nm bs ml rt T' (mkF m pc' ls (v :: st)) Q) : Ogo p l e R s m args below meth c Z a0 EL L0 own nm bs ml rt T (mkF m pc ls (.ref a :: st)) Q := by
  subst hp; exact own_same W (fun vm0 X hZ ho => getF X W.ex hZ ho (host := "") (Or.inl w) Via.refl W.2.1 F (g := mkF m pc ls (.ref a :: st)) rfl rfl (W.hb hd)) K
theorem g_getS (W : Owk p l e R s m args below meth c Z a0 EL L0 own nm bs ml rt T h SF k j) {pc pc' idx : Nat} {ls : Array Slot} {st : List Value} {O n d : String} {v : Value} (hd : decode bs pc = .ok (.getstatic idx, 3)) (hp : pc' = pc + 3) (w : (Cond.fieldLink own idx O n d).before a0 Z = true) (F : Sta Z h O n d v)
    (K : ∀ T', Owk p l e R s m args below meth c Z a0 EL L0 own nm bs ml rt T' h SF k j → Ogo p l e R s m args below meth c Z a0 EL L0 own nm bs ml rt T' (mkF m pc' ls (v :: st)) Q) : Ogo p l e R s m args below meth c Z a0 EL L0 own nm bs ml rt T (mkF m pc ls st) Q := by
  subst hp; exact own_same W (fun vm0 X hZ ho => getS X W.ex hZ ho (host := "") w Via.refl W.2.1 F (g := mkF m pc ls st) rfl (W.hb hd)) K
theorem g_ldcI (W : Owk p l e R s m args below meth c Z a0 EL L0 own nm bs ml rt T h SF k j) {pc pc' idx : Nat} {ls : Array Slot} {st : List Value} {v : Int32} (hd : decode bs pc = .ok (.ldc idx, 2)) (hp : pc' = pc + 2) (w : (Cond.constant own idx v).before a0 Z = true)
    (K : Ogo p l e R s m args below meth c Z a0 EL L0 own nm bs ml rt T (mkF m pc' ls (.int v :: st)) Q) : Ogo p l e R s m args below meth c Z a0 EL L0 own nm bs ml rt T (mkF m pc ls st) Q := by
  subst hp; exact own_here W (fun vm0 X hZ ho => X.ldcInt W.ex ho (mvT (s := s.setVm vm0) hZ w) (g := mkF m pc ls st) rfl (W.hb hd)) K
theorem g_cast (W : Owk p l e R s m args below meth c Z a0 EL L0 own nm bs ml rt T h SF k j) {pc pc' idx : Nat} {ls : Array Slot} {st : List Value} {C : String} {a : Addr} (hd : decode bs pc = .ok (.checkcast idx, 3)) (hp : pc' = pc + 3) (w : (Cond.classLink own idx C).before a0 Z = true) (F : Ins Z h a C true)
    (K : ∀ T', Owk p l e R s m args below meth c Z a0 EL L0 own nm bs ml rt T' h SF k j → Ogo p l e R s m args below meth c Z a0 EL L0 own nm bs ml rt T' (mkF m pc' ls (.ref a :: st)) Q) : Ogo p l e R s m args below meth c Z a0 EL L0 own nm bs ml rt T (mkF m pc ls (.ref a :: st)) Q := by
  subst hp; exact own_same W (fun vm0 X hZ ho => castY X W.ex hZ ho w W.2.1 F (g := mkF m pc ls (.ref a :: st)) rfl rfl (W.hb hd)) K
theorem g_inst (W : Owk p l e R s m args below meth c Z a0 EL L0 own nm bs ml rt T h SF k j) {pc pc' idx : Nat} {ls : Array Slot} {st : List Value} {C : String} {a : Addr} (hd : decode bs pc = .ok (.instanceof idx, 3)) (hp : pc' = pc + 3) (w : (Cond.classLink own idx C).before a0 Z = true) (F : Ins Z h a C true)
    (K : ∀ T', Owk p l e R s m args below meth c Z a0 EL L0 own nm bs ml rt T' h SF k j → Ogo p l e R s m args below meth c Z a0 EL L0 own nm bs ml rt T' (mkF m pc' ls (.int 1 :: st)) Q) : Ogo p l e R s m args below meth c Z a0 EL L0 own nm bs ml rt T (mkF m pc ls (.ref a :: st)) Q := by
  subst hp; exact own_same W (fun vm0 X hZ ho => instY X W.ex hZ ho w W.2.1 F (g := mkF m pc ls (.ref a :: st)) rfl rfl (W.hb hd)) K
theorem g_new (W : Owk p l e R s m args below meth c Z a0 EL L0 own nm bs ml rt T h SF k j) {pc pc' idx n : Nat} {ls : Array Slot} {st : List Value} {C : String} (hd : decode bs pc = .ok (.new idx, 3)) (hp : pc' = pc + 3) (w : (Cond.classLink own idx C).before a0 Z = true) (wi : (Cond.instantiable C n).before a0 Z = true) (wz : (Cond.initialized C).before a0 Z = true) (hc : k + 1 ≤ R.cells) (hl : j + n ≤ R.slots)
    (K : ∀ T' h', Ext h h' → Exa Z h' h.size C → (∀ {O nm d : String} {ty : FieldType}, Laid Z a0 C O nm d → parseFieldDescriptor d = some ty → Fld Z h' h.size O nm d (defaultValue ty)) → Unt h' h.size → Owk p l e R s m args below meth c Z a0 EL L0 own nm bs ml rt T' h' (h.size :: SF) (k + 1) (j + n) → Ogo p l e R s m args below meth c Z a0 EL L0 own nm bs ml rt T' (mkF m pc' ls (.ref h.size :: st)) Q) : Ogo p l e R s m args below meth c Z a0 EL L0 own nm bs ml rt T (mkF m pc ls st) Q := by
  subst hp
  obtain ⟨w1, w2, w3, w4, w5, vm0, k0, X, w6, w7, w8, w9, w10⟩ := id W
  obtain ⟨T', h', X', e', E, A, D, U, st'⟩ := newO X W.ex w6 (W.fc w7) w wi wz w2 (g := mkF m pc ls st) rfl (W.hb hd) hc hl
  refine own_step st' (K T' h' E A D U ⟨w1, e', fun x hx => ?_, hc, hl, vm0, k0, X', w6, w7, Nat.le_trans w8 E.1, w9.trans (CHr.ext E w9.1), fun x hx => ?_⟩)
  · rcases List.mem_cons.mp hx with rfl | q
    · exact A.lt
    · exact Nat.lt_of_lt_of_le (w3 x q) E.1
  · rcases List.mem_cons.mp hx with rfl | q
    · exact (Safe.new (Nat.le_refl _)).ext E w9.1
    · exact (w10 x q).ext E w9.1
theorem g_newP (W : Owk p l e R s m args below meth c Z a0 EL L0 own nm bs ml rt T h SF k j) {pc pc' : Nat} {ls : Array Slot} {st : List Value} {aty : ArrayType} {ty : FieldType} {dv : Value} {n : Int32} {cap : Nat} (hd : decode bs pc = .ok (.newarray aty, 2)) (hp : pc' = pc + 2) (hty : newarray.typeOf aty = ty) (hdv : defaultValue ty = dv) (w : (Cond.arrayClass ty).before a0 Z = true) (hn : ¬ n < 0) (hcap : n.toNatClampNeg ≤ cap) (hb : cap * 8 ≤ 536870912) (hc : k + 1 ≤ R.cells) (hl : j + cap ≤ R.slots)
    (K : ∀ T' h' cA, Ext h h' → Arv Z h' h.size cA ty n [] dv → Owk p l e R s m args below meth c Z a0 EL L0 own nm bs ml rt T' h' (h.size :: SF) (k + 1) (j + cap) → Ogo p l e R s m args below meth c Z a0 EL L0 own nm bs ml rt T' (mkF m pc' ls (.ref h.size :: st)) Q) : Ogo p l e R s m args below meth c Z a0 EL L0 own nm bs ml rt T (mkF m pc ls (.int n :: st)) Q := by
  subst hp hty hdv
  obtain ⟨w1, w2, w3, w4, w5, vm0, k0, X, w6, w7, w8, w9, w10⟩ := id W
  obtain ⟨T', h', cA, X', e', E, A, st'⟩ := newP X W.ex w6 w w2 (g := mkF m pc ls (.int n :: st)) rfl (W.hb hd) rfl hn hcap hb hc hl
  have V := Arv.new A hn
  refine own_step st' (K T' h' cA E V ⟨w1, e', fun x hx => ?_, hc, hl, vm0, k0, X', w6, w7, Nat.le_trans w8 E.1, w9.trans (CHr.ext E w9.1), fun x hx => ?_⟩)
  · rcases List.mem_cons.mp hx with rfl | q
    · exact V.lt
    · exact Nat.lt_of_lt_of_le (w3 x q) E.1
  · rcases List.mem_cons.mp hx with rfl | q
    · exact (Safe.new (Nat.le_refl _)).ext E w9.1
    · exact (w10 x q).ext E w9.1
theorem g_putF (W : Owk p l e R s m args below meth c Z a0 EL L0 own nm bs ml rt T h SF k j) {pc pc' idx kk : Nat} {ls : Array Slot} {st : List Value} {O n d C : String} {ty : FieldType} {a : Addr} {v old : Value} (hd : decode bs pc = .ok (.putfield idx, 3)) (hp : pc' = pc + 3) (w : (Cond.fieldLink own idx O n d).before a0 Z = true) (F : Fld Z h a O n d old) (E : Exa Z h a C) (L : (Cond.lays C O n d).before a0 Z = true ∨ ((Cond.laysFinal C O n d).before a0 Z = true ∧ own = O ∧ nm = "<init>")) (wi : (Cond.instantiable C kk).before a0 Z = true)
    (hty : parseFieldDescriptor d = some ty) (hn : narrow ty v = v) (hf : fits ty v = true) (hS : a ∈ SF) (hL : (⟨a, RoadKit.slotOf Z O n d⟩ : Loc) ∈ L0 ∨ s.heap.size ≤ a)
    (K : ∀ T' h', Wr h h' a (RoadKit.slotOf Z O n d) v → Owk p l e R s m args below meth c Z a0 EL L0 own nm bs ml rt T' h' SF k j → Ogo p l e R s m args below meth c Z a0 EL L0 own nm bs ml rt T' (mkF m pc' ls st) Q) : Ogo p l e R s m args below meth c Z a0 EL L0 own nm bs ml rt T (mkF m pc ls (v :: .ref a :: st)) Q := by
  subst hp
  have hnm := W.1.2.2.2.2.2.2.2
  exact own_wr W hS hL (fun vm0 X hZ ho => putF X W.ex hZ ho (host := "") (Or.inl w) Via.refl W.2.1 F E (L.imp id fun q => ⟨q.1, q.2.1, hnm.trans q.2.2⟩) wi hty hn hf (g := mkF m pc ls (v :: .ref a :: st)) rfl rfl (W.hb hd)) K
theorem own_idx {N jj : Int32} {i : Nat} (hN : ¬ N < 0) (hj : jj = Int32.ofNat i) (hi : i < N.toNatClampNeg) : ¬ jj < 0 ∧ jj.toNatClampNeg = i := by
  have q : N.toNatClampNeg < 2 ^ 31 := (back32 hN).2
  have e : jj.toInt = i := by rw [hj]; exact Int32.toInt_ofNat_of_lt (by omega)
  refine ⟨fun z => ?_, ?_⟩
  · rw [Int32.lt_iff_toInt_lt, e] at z
    have : (0 : Int32).toInt = 0 := rfl
    omega
  · show jj.toInt.toNat = i
    rw [e]; rfl
theorem g_alen (W : Owk p l e R s m args below meth c Z a0 EL L0 own nm bs ml rt T h SF k j) {pc pc' : Nat} {ls : Array Slot} {st : List Value} {a : Addr} {kC : ClassId} {ty : FieldType} {N : Int32} {vs : List Value} {dv : Value} (hd : decode bs pc = .ok (.arraylength, 1)) (hp : pc' = pc + 1) (A : Arv Z h a kC ty N vs dv)
    (K : Ogo p l e R s m args below meth c Z a0 EL L0 own nm bs ml rt T (mkF m pc' ls (.int N :: st)) Q) : Ogo p l e R s m args below meth c Z a0 EL L0 own nm bs ml rt T (mkF m pc ls (.ref a :: st)) Q := by
  subst hp
  obtain ⟨cl, A1, A2, A3, A4, A5, A6⟩ := A
  refine own_here W (fun vm0 X hZ ho t q => X.arraylength W.ex (by rw [W.2.1]; exact A1.1) (State.isArrayOf_alike hZ.alike A1.2.1) (g := mkF m pc ls (.ref a :: st)) rfl rfl (W.hb hd) t ?_) K
  rw [len_of A3 A4]; exact q
theorem g_caload (W : Owk p l e R s m args below meth c Z a0 EL L0 own nm bs ml rt T h SF k j) {pc pc' : Nat} {ls : Array Slot} {st : List Value} {a : Addr} {kC : ClassId} {N jj : Int32} {vs : List Value} {dv v : Value} (hd : decode bs pc = .ok (.caload, 1)) (hp : pc' = pc + 1) (A : Arv Z h a kC .char N vs dv) {i : Nat} (hj : jj = Int32.ofNat i) (hi : i < N.toNatClampNeg) (hv : vs.getD i dv = v)
    (K : Ogo p l e R s m args below meth c Z a0 EL L0 own nm bs ml rt T (mkF m pc' ls (v :: st)) Q) : Ogo p l e R s m args below meth c Z a0 EL L0 own nm bs ml rt T (mkF m pc ls (.int jj :: .ref a :: st)) Q := by
  subst hp
  obtain ⟨cl, A1, A2, A3, A4, A5, A6⟩ := A
  obtain ⟨q1, q2⟩ := own_idx A4 hj hi
  exact own_here W (fun vm0 X hZ ho t q => X.caload W.ex (v := v) (by rw [W.2.1]; exact A1.1) (State.isArrayOf_alike hZ.alike A1.2.1) A1.2.2 (by rw [q2, A3]; intro z; rcases z with z | z; exact q1 z; omega) (by rw [q2, A5 i (by omega), hv]) (g := mkF m pc ls (.int jj :: .ref a :: st)) rfl rfl (W.hb hd) t q) K
theorem g_baload (W : Owk p l e R s m args below meth c Z a0 EL L0 own nm bs ml rt T h SF k j) {pc pc' : Nat} {ls : Array Slot} {st : List Value} {a : Addr} {kC : ClassId} {N jj : Int32} {vs : List Value} {dv v : Value} (hd : decode bs pc = .ok (.baload, 1)) (hp : pc' = pc + 1) (A : Arv Z h a kC .byte N vs dv) {i : Nat} (hj : jj = Int32.ofNat i) (hi : i < N.toNatClampNeg) (hv : vs.getD i dv = v)
    (K : Ogo p l e R s m args below meth c Z a0 EL L0 own nm bs ml rt T (mkF m pc' ls (v :: st)) Q) : Ogo p l e R s m args below meth c Z a0 EL L0 own nm bs ml rt T (mkF m pc ls (.int jj :: .ref a :: st)) Q := by
  subst hp
  obtain ⟨cl, A1, A2, A3, A4, A5, A6⟩ := A
  obtain ⟨q1, q2⟩ := own_idx A4 hj hi
  exact own_here W (fun vm0 X hZ ho t q => X.baloadBytes W.ex (v := v) (by rw [W.2.1]; exact A1.1) (State.isArrayOf_alike hZ.alike A1.2.1) A1.2.2 (by rw [q2, A3]; intro z; rcases z with z | z; exact q1 z; omega) (by rw [q2, A5 i (by omega), hv]) (g := mkF m pc ls (.int jj :: .ref a :: st)) rfl rfl (W.hb hd) t q) K
theorem g_aaload (W : Owk p l e R s m args below meth c Z a0 EL L0 own nm bs ml rt T h SF k j) {pc pc' : Nat} {ls : Array Slot} {st : List Value} {a : Addr} {kC : ClassId} {ty : FieldType} {N jj : Int32} {vs : List Value} {dv v : Value} (hd : decode bs pc = .ok (.aaload, 1)) (hp : pc' = pc + 1) (A : Arv Z h a kC ty N vs dv) (hr : ty.isReference = true) {i : Nat} (hj : jj = Int32.ofNat i) (hi : i < N.toNatClampNeg) (hv : vs.getD i dv = v)
    (K : Ogo p l e R s m args below meth c Z a0 EL L0 own nm bs ml rt T (mkF m pc' ls (v :: st)) Q) : Ogo p l e R s m args below meth c Z a0 EL L0 own nm bs ml rt T (mkF m pc ls (.int jj :: .ref a :: st)) Q := by
  subst hp
  obtain ⟨cl, A1, A2, A3, A4, A5, A6⟩ := A
  obtain ⟨q1, q2⟩ := own_idx A4 hj hi
  exact own_here W (fun vm0 X hZ ho t q => X.aaload W.ex (v := v) (by rw [W.2.1]; exact A1.1) (State.isArrayOf_alike hZ.alike A1.2.1) hr A1.2.2 (by rw [q2, A3]; intro z; rcases z with z | z; exact q1 z; omega) (by rw [q2, A5 i (by omega), hv]) (g := mkF m pc ls (.int jj :: .ref a :: st)) rfl rfl (W.hb hd) t q) K
theorem g_castore (W : Owk p l e R s m args below meth c Z a0 EL L0 own nm bs ml rt T h SF k j) {pc pc' : Nat} {ls : Array Slot} {st : List Value} {a : Addr} {kC : ClassId} {N jj x y : Int32} {vs vs' : List Value} {dv : Value} (hd : decode bs pc = .ok (.castore, 1)) (hp : pc' = pc + 1) (A : Arv Z h a kC .char N vs dv) {i : Nat} (hj : jj = Int32.ofNat i) (hi : i < N.toNatClampNeg) (hi' : i < vs.length) (hy : nar .char x = y) (hv : vs.set i (.int y) = vs') (hS : a ∈ SF) (hL : (⟨a, i⟩ : Loc) ∈ L0 ∨ s.heap.size ≤ a)
    (K : ∀ T' h', Wr h h' a i (.int y) → Arv Z h' a kC .char N vs' dv → Owk p l e R s m args below meth c Z a0 EL L0 own nm bs ml rt T' h' SF k j → Ogo p l e R s m args below meth c Z a0 EL L0 own nm bs ml rt T' (mkF m pc' ls st) Q) : Ogo p l e R s m args below meth c Z a0 EL L0 own nm bs ml rt T (mkF m pc ls (.int x :: .int jj :: .ref a :: st)) Q := by
  subst hp hy hv
  obtain ⟨cl, A1, A2, A3, A4, A5, A6⟩ := A
  obtain ⟨q1, q2⟩ := own_idx A4 hj hi
  refine own_wr W (v := .int (nar .char x)) (sl := i) hS hL (fun vm0 X hZ ho => ?_) (fun T' h' w => K T' h' w (Arv.set (j := jj) A1 A2 A3 A4 A5 A6 (fits_nar_char x) (by rw [q2]; exact w) i q2 hi'))
  have := stC X W.ex hZ W.2.1 A1 (j := jj) (x := x) (by rw [q2, A3]; intro z; rcases z with z | z; exact q1 z; omega) (g := mkF m pc ls (.int x :: .int jj :: .ref a :: st)) rfl rfl (W.hb hd)
  rw [q2] at this; exact this
theorem g_bastore (W : Owk p l e R s m args below meth c Z a0 EL L0 own nm bs ml rt T h SF k j) {pc pc' : Nat} {ls : Array Slot} {st : List Value} {a : Addr} {kC : ClassId} {N jj x y : Int32} {vs vs' : List Value} {dv : Value} (hd : decode bs pc = .ok (.bastore, 1)) (hp : pc' = pc + 1) (A : Arv Z h a kC .byte N vs dv) {i : Nat} (hj : jj = Int32.ofNat i) (hi : i < N.toNatClampNeg) (hi' : i < vs.length) (hy : nar .byte x = y) (hv : vs.set i (.int y) = vs') (hS : a ∈ SF) (hL : (⟨a, i⟩ : Loc) ∈ L0 ∨ s.heap.size ≤ a)
    (K : ∀ T' h', Wr h h' a i (.int y) → Arv Z h' a kC .byte N vs' dv → Owk p l e R s m args below meth c Z a0 EL L0 own nm bs ml rt T' h' SF k j → Ogo p l e R s m args below meth c Z a0 EL L0 own nm bs ml rt T' (mkF m pc' ls st) Q) : Ogo p l e R s m args below meth c Z a0 EL L0 own nm bs ml rt T (mkF m pc ls (.int x :: .int jj :: .ref a :: st)) Q := by
  subst hp hy hv
  obtain ⟨cl, A1, A2, A3, A4, A5, A6⟩ := A
  obtain ⟨q1, q2⟩ := own_idx A4 hj hi
  refine own_wr W (v := .int (nar .byte x)) (sl := i) hS hL (fun vm0 X hZ ho => ?_) (fun T' h' w => K T' h' w (Arv.set (j := jj) A1 A2 A3 A4 A5 A6 (fits_nar_byte x) (by rw [q2]; exact w) i q2 hi'))
  have := stB X W.ex hZ W.2.1 A1 (j := jj) (x := x) (by rw [q2, A3]; intro z; rcases z with z | z; exact q1 z; omega) (g := mkF m pc ls (.int x :: .int jj :: .ref a :: st)) rfl rfl (W.hb hd)
  rw [q2] at this; exact this
theorem g_initO (W : Owk p l e R s m args below meth c Z a0 EL L0 own nm bs ml rt T h SF k j) {pc pc' idx : Nat} {ls : Array Slot} {st : List Value} {a : Addr} (hd : decode bs pc = .ok (.invokespecial idx, 3)) (hp : pc' = pc + 3) (w1 : (Cond.methodLink own idx Lib.objectInit).before a0 Z = true) (w2 : (Cond.instanceMethod Lib.objectInit).before a0 Z = true) (w3 : (Cond.code Lib.objectInit ⟨#[0xb1]⟩ 1 none).before a0 Z = true) (hsz : ls.size = ml) (hf : 1 ≤ R.frames) {w : Nat} (hW : (st.map fun v => v.category).sum ≤ w) (hl : w + 12 ≤ R.locals)
    (K : ∀ T', Owk p l e R s m args below meth c Z a0 EL L0 own nm bs ml rt T' h SF k j → Ogo p l e R s m args below meth c Z a0 EL L0 own nm bs ml rt T' (mkF m pc' ls st) Q) : Ogo p l e R s m args below meth c Z a0 EL L0 own nm bs ml rt T (mkF m pc ls (.ref a :: st)) Q := by
  subst hp; exact own_same W (fun vm0 X hZ ho => initO X W.ex hZ ho w1 w2 w3 W.2.1 (g := mkF m pc ls (.ref a :: st)) rfl (by rw [W.1.2.2.2.2.1]; exact hsz) rfl (W.hb hd) hf (W := w) (by show 2 * 0 + _ ≤ _; omega) hl) K
/-- ldc of a String constant of EL, read -/
theorem g_ldcS (W : Owk p l e R s m args below meth c Z a0 EL L0 own nm bs ml rt T h SF k j) {pc pc' idx : Nat} {ls : Array Slot} {st : List Value} {text : String} {vs : List Value} {z : Int32} {n : Nat} (hd : decode bs pc = .ok (.ldc idx, 2)) (hp : pc' = pc + 2) (w : (Cond.stringLink own idx text).before a0 Z = true) (wS : ∀ a ∈ Bundle.stringAtoms, a.before a0 Z = true) (hmem : (own, idx) ∈ EL)
    (ht : (∀ c ∈ text.toList, c.toNat < 256) ∧ text.toList.map (fun c => Value.int (Jvm.Lit.byteI c.toNat.toUInt16)) = vs) (hz : ¬ z < 0) (hl : z.toNatClampNeg = vs.length) (hn : 4 * text.toList.length ≤ n) (hbig : n ≤ 536870912) (hc : k + 2 ≤ R.cells) (hs : j + (n + 4) ≤ R.slots)
    (K : ∀ T' h' a b kb, Ext h h' → Exa Z h' a "java/lang/String" → Fld Z h' a "java/lang/String" "coder" "B" (.int 0) → Fld Z h' a "java/lang/String" "value" "[B" (.ref b) → Arv Z h' b kb .byte z vs (.int 0) → Owk p l e R s m args below meth c Z a0 EL L0 own nm bs ml rt T' h' SF (k + 2) (j + (n + 4)) → Ogo p l e R s m args below meth c Z a0 EL L0 own nm bs ml rt T' (mkF m pc' ls (.ref a :: st)) Q) : Ogo p l e R s m args below meth c Z a0 EL L0 own nm bs ml rt T (mkF m pc ls st) Q := by
  subst hp
  obtain ⟨w1, w2, w3, w4, w5, vm0, k0, X, w6, w7, w8, w9, w10⟩ := id W
  obtain ⟨a, T', h', k1, b, kb, X', e', E, hS', hk', hW', hf', f1, f2, f3, f4, f5, f6, C, -, -, st'⟩ := ldcCH X W.ex w6 (W.fc w7) w wS w2 w7 w8 w1.2.1 hmem w9.1 ht hz hl (g := mkF m pc ls st) rfl (W.hb hd) hn hbig hc hs
  exact own_step st' (K T' h' a b kb E f1 f2 f3 f4 ⟨w1, e', fun x hx => Nat.lt_of_lt_of_le (w3 x hx) E.1, hc, hs, T'.vm, k1, X', hW', hS', hk', w9.trans C, fun x hx => C.safe (w3 x hx) (w10 x hx)⟩)
theorem Owk.add (W : Owk p l e R s m args below meth c Z a0 EL L0 own nm bs ml rt T h SF k j) {a : Addr} {kC : ClassId} {ty : FieldType} {N : Int32} {vs : List Value} {dv : Value} (A : Arv Z h a kC ty N vs dv) (ht : ty ≠ .byte) : Owk p l e R s m args below meth c Z a0 EL L0 own nm bs ml rt T h (a :: SF) k j := by
  obtain ⟨w1, w2, w3, w4, w5, vm0, k0, X, w6, w7, w8, w9, w10⟩ := W
  refine ⟨w1, w2, fun x hx => ?_, w4, w5, vm0, k0, X, w6, w7, w8, w9, fun x hx => ?_⟩
  · rcases List.mem_cons.mp hx with rfl | q
    · exact A.lt
    · exact w3 x q
  · rcases List.mem_cons.mp hx with rfl | q
    · exact Safe.arv w6.alike A ht
    · exact w10 x q
theorem Owk.addE (W : Owk p l e R s m args below meth c Z a0 EL L0 own nm bs ml rt T h SF k j) {a : Addr} {C : String} (E : Exa Z h a C) (h1 : C ≠ "java/lang/String") (h2 : C ≠ "[B") : Owk p l e R s m args below meth c Z a0 EL L0 own nm bs ml rt T h (a :: SF) k j := by
  obtain ⟨w1, w2, w3, w4, w5, vm0, k0, X, w6, w7, w8, w9, w10⟩ := W
  refine ⟨w1, w2, fun x hx => ?_, w4, w5, vm0, k0, X, w6, w7, w8, w9, fun x hx => ?_⟩
  · rcases List.mem_cons.mp hx with rfl | q
    · exact E.lt
    · exact w3 x q
  · rcases List.mem_cons.mp hx with rfl | q
    · exact Safe.exa w6.alike E h1 h2
    · exact w10 x q
theorem g_instN (W : Owk p l e R s m args below meth c Z a0 EL L0 own nm bs ml rt T h SF k j) {pc pc' idx : Nat} {ls : Array Slot} {st : List Value} (hd : decode bs pc = .ok (.instanceof idx, 3)) (hp : pc' = pc + 3)
    (K : Ogo p l e R s m args below meth c Z a0 EL L0 own nm bs ml rt T (mkF m pc' ls (.int 0 :: st)) Q) : Ogo p l e R s m args below meth c Z a0 EL L0 own nm bs ml rt T (mkF m pc ls (.null :: st)) Q := by
  subst hp; exact own_here W (fun vm0 X hZ ho => X.instanceofNull W.ex (g := mkF m pc ls (.null :: st)) rfl rfl (W.hb hd)) K
theorem g_clone (W : Owk p l e R s m args below meth c Z a0 EL L0 own nm bs ml rt T h SF k j) {pc pc' idx : Nat} {ls : Array Slot} {st : List Value} {ad : String} {a : Addr} {kC : ClassId} {ty : FieldType} {N : Int32} {vs : List Value} {dv : Value} {w cap : Nat} (hd : decode bs pc = .ok (.invokevirtual idx, 3)) (hp : pc' = pc + 3)
    (w1 : (Jvm.Cond.methodLink own idx ⟨ad, "clone", "()Ljava/lang/Object;"⟩).before a0 Z = true) (w2 : (Jvm.Cond.sameMethod ad "java/lang/Object" "clone" "()Ljava/lang/Object;").before a0 Z = true) (w3 : (Jvm.Cond.native ⟨"java/lang/Object", "clone", "()Ljava/lang/Object;"⟩).before a0 Z = true) (w4 : (Jvm.Cond.instanceMethod ⟨"java/lang/Object", "clone", "()Ljava/lang/Object;"⟩).before a0 Z = true) (w5 : (Jvm.Cond.selects ad ⟨ad, "clone", "()Ljava/lang/Object;"⟩ ⟨"java/lang/Object", "clone", "()Ljava/lang/Object;"⟩).before a0 Z = true) (w6 : (Jvm.Cond.castable ad "java/lang/Cloneable").before a0 Z = true)
    (A : Arv Z h a kC ty N vs dv) (E : Exa Z h a ad) (hsz : ls.size = ml) (hf : 1 ≤ R.frames) (hW : (st.map fun v => v.category).sum ≤ w) (hl : w + 14 ≤ R.locals) (hcap : N.toNatClampNeg ≤ cap) (hc : k + 1 ≤ R.cells) (hsl : j + cap ≤ R.slots)
    (K : ∀ T' h', Ext h h' → Arv Z h' h.size kC ty N vs dv → Exa Z h' h.size ad → Owk p l e R s m args below meth c Z a0 EL L0 own nm bs ml rt T' h' SF (k + 1) (j + cap) → Ogo p l e R s m args below meth c Z a0 EL L0 own nm bs ml rt T' (mkF m pc' ls (.ref h.size :: st)) Q) : Ogo p l e R s m args below meth c Z a0 EL L0 own nm bs ml rt T (mkF m pc ls (.ref a :: st)) Q := by
  subst hp
  obtain ⟨x1, x2, x3, x4, x5, vm0, k0, X, x6, x7, x8, x9, x10⟩ := id W
  obtain ⟨T', h', X', e', E', A', F', st'⟩ := cloneH X W.ex x6 (W.fc x7) w1 w2 w3 w4 w5 w6 x2 A.arh E (g := mkF m pc ls (.ref a :: st)) rfl (by rw [x1.2.2.2.2.1]; exact hsz) rfl (W.hb hd) hf (W := w) (by show 2 * 0 + _ ≤ _; omega) hl hcap hc hsl
  exact own_step st' (K T' h' E' A' F' ⟨x1, e', fun x hx => Nat.lt_of_lt_of_le (x3 x hx) E'.1, hc, hsl, vm0, k0, X', x6, x7, Nat.le_trans x8 E'.1, x9.trans (CHr.ext E' x9.1), fun x hx => (x10 x hx).ext E' x9.1⟩)
/-! returns -/
theorem g_ret (W : Owk p l e R s m args below meth c Z a0 EL L0 own nm bs ml rt T h SF k j) {pc : Nat} {ls : Array Slot} {st : List Value} {i : Instr} {t : FieldType} {v : Value} (hd : decode bs pc = .ok (i, 1)) (hr : rt = some t) (hn : narrow t v = v)
    (hi : (i = .ireturn ∧ (t = .int ∨ t = .boolean ∨ t = .byte ∨ t = .char ∨ t = .short) ∧ ∃ z, v = .int z) ∨ (i = .lreturn ∧ t = .long ∧ ∃ z, v = .long z) ∨ (i = .dreturn ∧ t = .double ∧ ∃ z, v = .double z) ∨ (i = .freturn ∧ t = .float ∧ ∃ z, v = .float z) ∨ (i = .areturn ∧ t.isReference = true ∧ v.isRef = true)) (q : Q (some v) h SF) : Ogo p l e R s m args below meth c Z a0 EL L0 own nm bs ml rt T (mkF m pc ls (v :: st)) Q := by
  obtain ⟨w1, w2, w3, w4, w5, vm0, k0, X, w6, w7, w8, w9, w10⟩ := id W
  exact ⟨T, some v, h, SF, k, j, W, (fun z => by rw [hr] at z; cases z), q, fun fs hl => retOut X W.ex (by rw [← hr]; exact w1.2.2.2.2.2.1) hn hi (W.hb hd) hl⟩
theorem g_return (W : Owk p l e R s m args below meth c Z a0 EL L0 own nm bs ml rt T h SF k j) {pc : Nat} {ls : Array Slot} (hd : decode bs pc = .ok (.return_, 1)) (hr : rt = none) (q : Q none h SF) : Ogo p l e R s m args below meth c Z a0 EL L0 own nm bs ml rt T (mkF m pc ls []) Q := by
  obtain ⟨w1, w2, w3, w4, w5, vm0, k0, X, w6, w7, w8, w9, w10⟩ := id W
  exact ⟨T, none, h, SF, k, j, W, fun _ => rfl, q, fun fs hl => X.returnOut W.ex (by rw [← hr]; exact w1.2.2.2.2.2.1) (W.hb hd) hl⟩
theorem g_iret (W : Owk p l e R s m args below meth c Z a0 EL L0 own nm bs ml rt T h SF k j) {pc : Nat} {ls : Array Slot} {st : List Value} {t : FieldType} {z : Int32} (hd : decode bs pc = .ok (.ireturn, 1)) (hr : rt = some t) (ht : t = .int ∨ t = .boolean ∨ t = .byte ∨ t = .char ∨ t = .short) (hn : narrow t (.int z) = .int z) (q : Q (some (.int z)) h SF) : Ogo p l e R s m args below meth c Z a0 EL L0 own nm bs ml rt T (mkF m pc ls (.int z :: st)) Q :=
  g_ret W hd hr hn (Or.inl ⟨rfl, ht, z, rfl⟩) q
theorem g_aret (W : Owk p l e R s m args below meth c Z a0 EL L0 own nm bs ml rt T h SF k j) {pc : Nat} {ls : Array Slot} {st : List Value} {t : FieldType} {v : Value} (hd : decode bs pc = .ok (.areturn, 1)) (hr : rt = some t) (ht : t.isReference = true) (hv : v.isRef = true) (hn : narrow t v = v) (q : Q (some v) h SF) : Ogo p l e R s m args below meth c Z a0 EL L0 own nm bs ml rt T (mkF m pc ls (v :: st)) Q :=
  g_ret W hd hr hn (Or.inr (Or.inr (Or.inr (Or.inr ⟨rfl, ht, hv⟩)))) q
/-! contracts -/
/-- y, called with as' at the heap h (whose cells ySF may be written), comes back with Q; of the old it writes the places yL alone -/
def Ocon (l : Launch) (Z : State) (EL : List (String × Nat)) (y : MethodName) (bs : ByteArray) (ml : Nat) (rt : Option FieldType) (ws : List Jvm.Cond) (rm : Room) (as' : Array Value) (h : Heap) (SF : List Addr) (L0 : List Loc) (Q : Option Value → Heap → List Addr → Prop) : Prop :=
  MetFree l y (head1 (Jvm.Cond.code y bs ml rt :: ws) rm) (fun a U => a = as' ∧ Z.Warmed39 U.vm ∧ U.heap = h ∧ CHv Z EL U.vm h ∧ ∀ x ∈ SF, x < h.size ∧ Safe Z EL U.vm h x) (fun _ _ _ _ _ => True)
    (fun _ U o U' => ∃ v SFo, o = .returned v ∧ Q v U'.heap SFo ∧ (∀ x ∈ SFo, x < U'.heap.size ∧ Safe Z EL U'.vm U'.heap x) ∧ CHr Z EL U.vm U.heap U'.vm U'.heap ∧ ReturnedEndW U o U' L0 rm.cells rm.slots)
theorem own_con {y : MethodName} {ws : List Jvm.Cond} {rm : Room} {as' : Array Value} {h0 : Heap} (hEL : EW Z a0 EL) (hpl : plainFor y = true)
    (go : ∀ (p : Program) (e : Env) (s : State) (m : MethodId) (below : List Frame) (meth : Method) (c : Code) (T : State), s.heap = h0 → Owk p l e rm s m as' below meth c Z a0 EL L0 y.cls y.name bs ml rt T h0 SF 0 0 → Ogo p l e rm s m as' below meth c Z a0 EL L0 y.cls y.name bs ml rt T (entryFrame m as' ml) Q) :
    Ocon l Z EL y bs ml rt ws rm as' h0 SF L0 Q := by
  refine MetFree.of_bodySF hpl hisR ?_
  intro p e s m args below meth c s₁ Bd hml hP hK
  obtain ⟨rfl, hZ, hh, hC, hS⟩ := hP
  have X0 : Stand p l e rm s m args below meth c s₁ [] 0 0 := Stand.of_body Bd
  have hlk : meth.locks = false := BodyLoose.notSynchronized Bd
  have e0 : s₁.heap = h0 := by rw [← hh, Bd.state]; rfl
  have X1 : Stand p l e rm (s.setVm s.vm) m args below meth c s₁ L0 0 0 := X0.sift (fun x hx => by cases hx)
  obtain ⟨T', v, h', SF', k', j', W', hv, hq, st⟩ := go p e s m below meth c s₁ hh ⟨⟨Bd.exec, hEL, findClass_of_methodNamed Bd.named, Bd.bytes, hml, Bd.returns, hlk, (name_of_methodNamed Bd.named Bd.method).1⟩, e0, fun x hx => (hS x hx).1, Nat.zero_le _, Nat.zero_le _, s.vm, s.heap.size, X1, hZ, (State.WarmedH.refl s).since _, by rw [hh]; exact Nat.le_refl _, by rw [hh]; exact CHr.refl hC, fun x hx => (hS x hx).2⟩
  obtain ⟨w1, w2, w3, w4, w5, vm0, k0, X, w6, w7, w8, w9, w10⟩ := W'
  obtain ⟨fs, hl, hrun, hend, hret⟩ := (X.mono w4 w5).leaveW (v := v) w7 (by rw [w2]; exact w8) (fun z => hv (by rw [← z]; exact Bd.returns.symm ▸ rfl)) hlk
  have A := CHv.at X w6 hEL w9.1
  refine ⟨_, _, st fs hl, hrun, hend, v, SF', rfl, by rw [show (T'.setFrames fs).heap = T'.heap from rfl, w2]; exact hq, fun x hx => ?_, ?_, hret⟩
  · show x < T'.heap.size ∧ Safe Z EL T'.vm T'.heap x
    rw [w2]; exact ⟨w3 x hx, A.safe (w3 x hx) (w10 x hx)⟩
  have q : CHr Z EL s.vm s.heap T'.vm h' := w9.trans A
  show CHr Z EL s.vm s.heap T'.vm T'.heap
  rw [w2]; exact q
section Calls
variable {y : MethodName} {yb : ByteArray} {yl : Nat} {yr : Option FieldType} {rm : Room} {as' : Array Value} {ySF : List Addr} {yL : List Loc} {yQ : Option Value → Heap → List Addr → Prop}
theorem own_back {vm0 : Vm} {len w : Nat} (con : Ocon l Z EL y yb yl yr [] rm as' h ySF yL yQ) (hZ : Z.Warmed39 vm0) (wc : (Jvm.Cond.code y yb yl yr).before a0 Z = true) (wz : (Jvm.Cond.initialized y.cls).before a0 Z = true) (hf : rm.frames + 1 ≤ R.frames) (hl : w + (yl + 11) + rm.locals ≤ R.locals) (hEL : EW Z a0 EL) (H : CHv Z EL vm0 h) (hS : ∀ x ∈ ySF, x < h.size ∧ Safe Z EL vm0 h x) :
    BackS l R p e below (s.setVm vm0) args y len w (fun A a => a = as' ∧ A.U.heap = h ∧ A.cells + rm.cells ≤ R.cells ∧ A.slots + rm.slots ≤ R.slots)
      (fun A _ v B => ∃ SFo, yQ v B.U.heap SFo ∧ (∀ x ∈ SFo, x < B.U.heap.size ∧ Safe Z EL B.U.vm B.U.heap x) ∧ B.locs = A.locs ++ yL ∧ B.cells = A.cells + rm.cells ∧ B.slots = A.slots + rm.slots ∧ CHr Z EL vm0 h B.U.vm B.U.heap) :=
  BackS.of_freeW (bytes := yb) (maxL := yl) (ret := yr) (E := fun _ first o t L k n => L = yL ∧ k = rm.cells ∧ n = rm.slots ∧ (∃ v SFo, o = .returned v ∧ yQ v t.heap SFo ∧ ∀ x ∈ SFo, x < t.heap.size ∧ Safe Z EL t.vm t.heap x) ∧ CHr Z EL first.vm first.heap t.vm t.heap) con hf hl
    (fun m meth c A a Y hp => have hU : Z.Warmed39 A.U.vm := wtrans (s := s.setVm vm0) hZ Y.warmed
      ⟨by show (Jvm.Cond.and _ .tt).before a A.U = true; rw [Cond.before_and, mv hU wc]; rfl, mv hU wc, mv hU wz, hp.2.2.1, hp.2.2.2⟩)
    (fun m meth c A a g mk Y hp => ⟨hp.1, wtrans (s := s.setVm vm0) hZ Y.warmed, hp.2.1, (CHv.at Y hZ hEL H).1, fun x hx => ⟨(hS x hx).1, (CHv.at Y hZ hEL H).safe (hS x hx).1 (hS x hx).2⟩⟩) (fun _ _ _ _ _ _ _ _ _ => trivial)
    (fun _ _ _ _ ⟨v, SFo, h1, h2, h2', h3, h4⟩ => ⟨yL, _, _, h4, rfl, rfl, rfl, ⟨v, SFo, h1, h2, h2'⟩, h3⟩)
    (fun m meth c A a g mk v t L k n Y hp _ _ ⟨e0, e1, e2, ⟨v', SFo, e3, e4, e4'⟩, e5⟩ => by
      cases e3; subst e0 e1 e2
      refine ⟨SFo, e4, e4', rfl, rfl, rfl, (CHv.at Y hZ hEL H).trans ?_⟩
      rw [← hp.2.1]; exact e5)
theorem own_after {SFo : List Addr} (W : Owk p l e R s m args below meth c Z a0 EL L0 own nm bs ml rt T h SF k j) {vm0 vm1 : Vm} {k0 : Nat} {B : Pt} (hS0 : s.Since vm0 k0) (hk0 : k0 ≤ h.size) (hZ : Z.Warmed39 vm0) (C0 : CHr Z EL s.vm s.heap vm0 h) (hsf : ∀ x ∈ SF, Safe Z EL vm0 h x) (hL : ∀ q ∈ yL, q ∈ L0 ∨ s.heap.size ≤ q.base) (hcl : k + rm.cells ≤ R.cells) (hsl : j + rm.slots ≤ R.slots)
    (X : Stand p l e R ((s.setVm vm0).setVm B.U.vm) m args below meth c B.U B.locs B.cells B.slots) (hS : (s.setVm vm0).Since B.U.vm B.U.heap.size) (hg : h.size ≤ B.U.heap.size) (hso : ∀ x ∈ SFo, x < B.U.heap.size ∧ Safe Z EL B.U.vm B.U.heap x) (el : B.locs = L0 ++ yL) (ec : B.cells = k + rm.cells) (es : B.slots = j + rm.slots) (C : CHr Z EL vm0 h B.U.vm B.U.heap) : Owk p l e R s m args below meth c Z a0 EL L0 own nm bs ml rt B.U B.U.heap (SFo ++ SF) (k + rm.cells) (j + rm.slots) := by
  rw [el, ec, es] at X
  have X2 := X.sift (L' := L0) (fun x hx => by
    rcases List.mem_append.mp hx with q | q
    · exact Or.inl q
    · exact hL x q)
  have hS2 : s.Since B.U.vm B.U.heap.size := hS0.trans hS (Nat.le_trans hk0 hg)
  exact ⟨W.1, rfl, fun x hx => (List.mem_append.mp hx).elim (fun q => (hso x q).1) (fun q => Nat.lt_of_lt_of_le (W.2.2.1 x q) hg), hcl, hsl, B.U.vm, _, X2, State.Warmed39.trans (t := s.setVm vm0) hZ hS.1, hS2, Nat.le_refl _, C0.trans C, fun x hx => (List.mem_append.mp hx).elim (fun q => (hso x q).2) (fun q => C.safe (W.2.2.1 x q) (hsf x q))⟩
theorem g_static (W : Owk p l e R s m args below meth c Z a0 EL L0 own nm bs ml rt T h SF k j) {pc pc' idx w : Nat} {ls : Array Slot} {argsL st stk : List Value} {ps : List FieldType} (hd : decode bs pc = .ok (.invokestatic idx, 3)) (hp : pc' = pc + 3) (w1 : (Jvm.Cond.methodLink own idx y).before a0 Z = true) (w2 : (Jvm.Cond.static y).before a0 Z = true) (w3 : (Jvm.Cond.initialized y.cls).before a0 Z = true) (w4 : (Jvm.Cond.code y yb yl yr).before a0 Z = true)
    (hy : y.cls ≠ "java/lang/invoke/MethodHandle" ∧ y.cls ≠ "java/lang/invoke/VarHandle") (con : Ocon l Z EL y yb yl yr [] rm as' h ySF yL yQ) (hpd : parseMethodDescriptor y.desc = some ⟨ps, yr⟩) (hln : argsL.length = ps.length) (hstk : stk = argsL.reverse ++ st) (has : as' = argsL.toArray) (hsz : ls.size = ml) (hf : rm.frames + 1 ≤ R.frames) (hW : (st.map fun v => v.category).sum ≤ w) (hlo : w + (yl + 11) + rm.locals ≤ R.locals) (hcl : k + rm.cells ≤ R.cells) (hsl : j + rm.slots ≤ R.slots) (hSF : ∀ x ∈ ySF, x ∈ SF) (hL : ∀ q ∈ yL, q ∈ L0 ∨ s.heap.size ≤ q.base)
    (K : ∀ v T' h' SFo, yQ v h' SFo → Owk p l e R s m args below meth c Z a0 EL L0 own nm bs ml rt T' h' (SFo ++ SF) (k + rm.cells) (j + rm.slots) → Ogo p l e R s m args below meth c Z a0 EL L0 own nm bs ml rt T' (mkF m pc' ls (v.toList ++ st)) Q) : Ogo p l e R s m args below meth c Z a0 EL L0 own nm bs ml rt T (mkF m pc ls stk) Q := by
  subst hp hstk has
  obtain ⟨x1, x2, x3, x4, x5, vm0, k0, X, x6, x7, x8, x9, x10⟩ := id W
  have m1 : (Jvm.Cond.code y yb yl yr).before args (s.setVm vm0) = true := mvT (s := s.setVm vm0) x6 w4
  obtain ⟨mk, hnamed⟩ := Cond.code_named m1
  obtain ⟨methM, cM, hmethM, -, -, -, -, -, -, hsigM⟩ := Cond.code_spec hnamed m1
  obtain ⟨v, vm1, B, -, X', hS', hg', ⟨SFo, q1, q0, q2, q3, q4, q5⟩, come⟩ := X.staticBackS W.ex (W.fc x7) (mvT (s := s.setVm vm0) x6 w1) (mvT (s := s.setVm vm0) x6 w2) (mvT (s := s.setVm vm0) x6 w3) hnamed hmethM hsigM hy
    (own_back (w := w) con x6 w4 w3 hf hlo x1.2.1 x9.1 (fun x hx => ⟨x3 x (hSF x hx), x10 x (hSF x hx)⟩)) (g := mkF m pc ls (argsL.reverse ++ st)) rfl (by rw [x1.2.2.2.2.1]; exact hsz) (Steps.refl _) (lenOf hpd hln) rfl (by show 2 * 0 + _ ≤ _; omega) (W.hb hd) (fun vm1 _ => ⟨rfl, x2, hcl, hsl⟩)
  rw [x2] at hg'
  exact own_step (fun t q => come.trans q) (K v B.U B.U.heap SFo q1 (own_after (vm1 := vm1) W x7 x8 x6 x9 x10 hL hcl hsl X' hS' hg' q0 q2 q3 q4 q5))
theorem g_special (W : Owk p l e R s m args below meth c Z a0 EL L0 own nm bs ml rt T h SF k j) {pc pc' idx w : Nat} {ls : Array Slot} {a : Addr} {argsL st stk : List Value} {ps : List FieldType} (hd : decode bs pc = .ok (.invokespecial idx, 3)) (hp : pc' = pc + 3) (hy1 : y.name = "<init>") (w1 : (Jvm.Cond.methodLink own idx y).before a0 Z = true) (w2 : (Jvm.Cond.instanceMethod y).before a0 Z = true) (w3 : (Jvm.Cond.initialized y.cls).before a0 Z = true) (w4 : (Jvm.Cond.code y yb yl none).before a0 Z = true)
    (hy : y.cls ≠ "java/lang/invoke/MethodHandle" ∧ y.cls ≠ "java/lang/invoke/VarHandle") (con : Ocon l Z EL y yb yl none [] rm as' h ySF yL yQ) (hpd : parseMethodDescriptor y.desc = some ⟨ps, none⟩) (hln : argsL.length = ps.length) (hstk : stk = argsL.reverse ++ .ref a :: st) (has : as' = (.ref a :: argsL).toArray) (hsz : ls.size = ml) (hf : rm.frames + 1 ≤ R.frames) (hW : (st.map fun v => v.category).sum ≤ w) (hlo : w + (yl + 11) + rm.locals ≤ R.locals) (hcl : k + rm.cells ≤ R.cells) (hsl : j + rm.slots ≤ R.slots) (hSF : ∀ x ∈ ySF, x ∈ SF) (hL : ∀ q ∈ yL, q ∈ L0 ∨ s.heap.size ≤ q.base)
    (K : ∀ v T' h' SFo, yQ v h' SFo → Owk p l e R s m args below meth c Z a0 EL L0 own nm bs ml rt T' h' (SFo ++ SF) (k + rm.cells) (j + rm.slots) → Ogo p l e R s m args below meth c Z a0 EL L0 own nm bs ml rt T' (mkF m pc' ls (v.toList ++ st)) Q) : Ogo p l e R s m args below meth c Z a0 EL L0 own nm bs ml rt T (mkF m pc ls stk) Q := by
  subst hp hstk has
  obtain ⟨x1, x2, x3, x4, x5, vm0, k0, X, x6, x7, x8, x9, x10⟩ := id W
  obtain ⟨v, vm1, B, -, X', hS', hg', ⟨SFo, q1, q0, q2, q3, q4, q5⟩, come⟩ := X.specialBackS W.ex hy1 (W.fc x7) (mvT (s := s.setVm vm0) x6 w1) (mvT (s := s.setVm vm0) x6 w2) (mvT (s := s.setVm vm0) x6 w4) hy
    (own_back (w := w) con x6 w4 w3 hf hlo x1.2.1 x9.1 (fun x hx => ⟨x3 x (hSF x hx), x10 x (hSF x hx)⟩)) (g := mkF m pc ls (argsL.reverse ++ .ref a :: st)) rfl (by rw [x1.2.2.2.2.1]; exact hsz) (Steps.refl _) (lenOf hpd hln) rfl (by show 2 * 0 + _ ≤ _; omega) (W.hb hd) (fun vm1 _ => ⟨rfl, x2, hcl, hsl⟩)
  rw [x2] at hg'
  exact own_step (fun t q => come.trans q) (K v B.U B.U.heap SFo q1 (own_after (vm1 := vm1) W x7 x8 x6 x9 x10 hL hcl hsl X' hS' hg' q0 q2 q3 q4 q5))
theorem g_virtual (W : Owk p l e R s m args below meth c Z a0 EL L0 own nm bs ml rt T h SF k j) {pc pc' idx w : Nat} {ls : Array Slot} {a : Addr} {C : String} {yd : MethodName} {argsL st stk : List Value} {ps : List FieldType} (hd : decode bs pc = .ok (.invokevirtual idx, 3)) (hp : pc' = pc + 3) (w1 : (Jvm.Cond.methodLink own idx yd).before a0 Z = true) (w5 : (Jvm.Cond.declares yd).before a0 Z = true) (w7 : (Jvm.Cond.selects yd.cls yd yd).before a0 Z = true) (w6 : (Jvm.Cond.selects C yd y).before a0 Z = true) (w2 : (Jvm.Cond.instanceMethod y).before a0 Z = true) (w3 : (Jvm.Cond.initialized y.cls).before a0 Z = true) (w4 : (Jvm.Cond.code y yb yl yr).before a0 Z = true)
    (hy : yd.cls ≠ "java/lang/invoke/MethodHandle" ∧ yd.cls ≠ "java/lang/invoke/VarHandle") (E : Exa Z h a C) (con : Ocon l Z EL y yb yl yr [] rm as' h ySF yL yQ) (hpd : parseMethodDescriptor yd.desc = some ⟨ps, yr⟩) (hln : argsL.length = ps.length) (hstk : stk = argsL.reverse ++ .ref a :: st) (has : as' = (.ref a :: argsL).toArray) (hsz : ls.size = ml) (hf : rm.frames + 1 ≤ R.frames) (hW : (st.map fun v => v.category).sum ≤ w) (hlo : w + (yl + 11) + rm.locals ≤ R.locals) (hcl : k + rm.cells ≤ R.cells) (hsl : j + rm.slots ≤ R.slots) (hSF : ∀ x ∈ ySF, x ∈ SF) (hL : ∀ q ∈ yL, q ∈ L0 ∨ s.heap.size ≤ q.base)
    (K : ∀ v T' h' SFo, yQ v h' SFo → Owk p l e R s m args below meth c Z a0 EL L0 own nm bs ml rt T' h' (SFo ++ SF) (k + rm.cells) (j + rm.slots) → Ogo p l e R s m args below meth c Z a0 EL L0 own nm bs ml rt T' (mkF m pc' ls (v.toList ++ st)) Q) : Ogo p l e R s m args below meth c Z a0 EL L0 own nm bs ml rt T (mkF m pc ls stk) Q := by
  subst hp hstk has
  obtain ⟨x1, x2, x3, x4, x5, vm0, k0, X, x6, x7, x8, x9, x10⟩ := id W
  obtain ⟨cq, kq, qa, -, qc⟩ := isOf (s := s.setVm vm0) x6 x2 E
  obtain ⟨v, vm1, B, -, X', hS', hg', ⟨SFo, q1, q0, q2, q3, q4, q5⟩, come⟩ := X.virtualBackS W.ex (W.fc x7) (mvT (s := s.setVm vm0) x6 w1) (mvT (s := s.setVm vm0) x6 w5) (notFace_of_selects (args := #[]) (mvT (s := s.setVm vm0) x6 w7)) (mvT (s := s.setVm vm0) x6 w6) (mvT (s := s.setVm vm0) x6 w2) hy
    (own_back (w := w) con x6 w4 w3 hf hlo x1.2.1 x9.1 (fun x hx => ⟨x3 x (hSF x hx), x10 x (hSF x hx)⟩)) qa qc (g := mkF m pc ls (argsL.reverse ++ .ref a :: st)) rfl (by rw [x1.2.2.2.2.1]; exact hsz) (Steps.refl _) (lenOf hpd hln) rfl (by show 2 * 0 + _ ≤ _; omega) (W.hb hd) (fun vm1 _ => ⟨rfl, x2, hcl, hsl⟩)
  rw [x2] at hg'
  exact own_step (fun t q => come.trans q) (K v B.U B.U.heap SFo q1 (own_after (vm1 := vm1) W x7 x8 x6 x9 x10 hL hcl hsl X' hS' hg' q0 q2 q3 q4 q5))
/-- a virtual call paid by a narrow law that leaves the heap as it is -/
theorem g_virtualB (W : Owk p l e R s m args below meth c Z a0 EL L0 own nm bs ml rt T h SF k j) {pc pc' idx w : Nat} {ls : Array Slot} {a : Addr} {C : String} {yd : MethodName} {argsL st stk : List Value} {ps : List FieldType} {yR : Option Value → Prop} (hd : decode bs pc = .ok (.invokevirtual idx, 3)) (hp : pc' = pc + 3) (w1 : (Jvm.Cond.methodLink own idx yd).before a0 Z = true) (w5 : (Jvm.Cond.declares yd).before a0 Z = true) (w7 : (Jvm.Cond.selects yd.cls yd yd).before a0 Z = true) (w6 : (Jvm.Cond.selects C yd y).before a0 Z = true) (w2 : (Jvm.Cond.instanceMethod y).before a0 Z = true)
    (hy : yd.cls ≠ "java/lang/invoke/MethodHandle" ∧ yd.cls ≠ "java/lang/invoke/VarHandle") (E : Exa Z h a C)
    (pay : ∀ vm0, Z.Warmed39 vm0 → Back l R p e below (s.setVm vm0) args y 3 w (fun P a' => a' = as' ∧ P.U.heap = h ∧ P.cells + 0 ≤ R.cells ∧ P.slots + 0 ≤ R.slots) (fun P _ v B => ∃ L, (yR v ∧ L = [] ∧ B.U.heap = h) ∧ B.locs = P.locs ++ L ∧ B.cells = P.cells + 0 ∧ B.slots = P.slots + 0))
    (hpd : parseMethodDescriptor yd.desc = some ⟨ps, yr⟩) (hln : argsL.length = ps.length) (hstk : stk = argsL.reverse ++ .ref a :: st) (has : as' = (.ref a :: argsL).toArray) (hsz : ls.size = ml) (hW : (st.map fun v => v.category).sum ≤ w)
    (K : ∀ v T', yR v → Owk p l e R s m args below meth c Z a0 EL L0 own nm bs ml rt T' h SF k j → Ogo p l e R s m args below meth c Z a0 EL L0 own nm bs ml rt T' (mkF m pc' ls (v.toList ++ st)) Q) : Ogo p l e R s m args below meth c Z a0 EL L0 own nm bs ml rt T (mkF m pc ls stk) Q := by
  subst hp hstk has
  obtain ⟨x1, x2, x3, x4, x5, vm0, k0, X, x6, x7, x8, x9, x10⟩ := id W
  obtain ⟨cq, kq, qa, -, qc⟩ := isOf (s := s.setVm vm0) x6 x2 E
  obtain ⟨v, vm1, ⟨T', L', k', j'⟩, -, X', ⟨L, ⟨q1, q2, q3⟩, q4, q5, q6⟩, come⟩ := X.virtualBack W.ex (W.fc x7) (mvT (s := s.setVm vm0) x6 w1) (mvT (s := s.setVm vm0) x6 w5) (notFace_of_selects (args := #[]) (mvT (s := s.setVm vm0) x6 w7)) (mvT (s := s.setVm vm0) x6 w6) (mvT (s := s.setVm vm0) x6 w2) hy
    (pay vm0 x6) qa qc (g := mkF m pc ls (argsL.reverse ++ .ref a :: st)) rfl (by rw [x1.2.2.2.2.1]; exact hsz) (Steps.refl _) (lenOf hpd hln) rfl (by show 2 * 0 + _ ≤ _; omega) (W.hb hd) (fun vm1 _ => ⟨rfl, x2, x4, x5⟩)
  dsimp only [Pt.U, Pt.locs, Pt.cells, Pt.slots] at X' q3 q4 q5 q6 come
  subst q2 q4 q5 q6
  rw [List.append_nil] at X'
  exact own_step (fun t q => come.trans q) (K v T' q1 ⟨x1, q3, x3, x4, x5, vm0, k0, X', x6, x7, x8, x9, x10⟩)
end Calls
end OwnLayer
/-! plain facts on numbers and lists -/
open StrChars in
theorem own_lo8 (x : Int32) : nar .byte (x.toInt8.toInt32) = lo8 x := by
  show x.toInt8.toInt32.toInt8.toInt32 = x.toInt8.toInt32
  rw [Int8.toInt8_toInt32]
theorem own_lt {i n : Nat} (hn : n < 2 ^ 30) (h : i < n) : Int32.ofNat i < Int32.ofNat n := Jvm.Free.XT.lt32 (by omega) h
theorem own_succ (i : Nat) : Int32.ofNat i + Int32.ofInt 1 = Int32.ofNat (i + 1) := by rw [Int32.ofNat_add]; rfl
theorem own_nn {n : Nat} (hn : n < 2 ^ 30) : ¬ Int32.ofNat n < 0 := Int32.ofNat_not_neg (by omega)
theorem own_clamp {n : Nat} (hn : n < 2 ^ 30) : (Int32.ofNat n).toNatClampNeg = n := Jvm.Free.XT.n32 (by omega)
theorem own_getI (cs : List Int32) (dv : Value) {i : Nat} (h : i < cs.length) : (cs.map Value.int).getD i dv = .int (cs.getD i 0) := by
  simp [List.getD_eq_getElem?_getD, h]
open StrChars in
/-- the byte[] when the first r chars are laid -/
def own_cmp (cs : List Int32) (n r : Nat) : List Value := ((cs.take r).map fun c => Value.int (lo8 c)) ++ List.replicate (n - r) (.int 0)
theorem own_cmp0 (cs : List Int32) (n : Nat) : own_cmp cs n 0 = List.replicate n (.int 0) := by simp [own_cmp]
open StrChars in
theorem own_cmpn (cs : List Int32) {n : Nat} (hn : cs.length = n) : own_cmp cs n n = cs.map fun c => Value.int (lo8 c) := by subst hn; simp [own_cmp]
theorem own_cmplen (cs : List Int32) {n r : Nat} (hn : cs.length = n) (h : r ≤ n) : (own_cmp cs n r).length = n := by simp [own_cmp, hn]; omega
open StrChars in
theorem own_cmpset (cs : List Int32) {n i : Nat} (hn : cs.length = n) (h : i < n) : (own_cmp cs n i).set i (.int (lo8 (cs.getD i 0))) = own_cmp cs n (i + 1) := by
  have hl : i < cs.length := by omega
  have e1 : cs.take (i + 1) = cs.take i ++ [cs.getD i 0] := by
    rw [List.take_succ]; simp [List.getD_eq_getElem?_getD, hl]
  have e2 : ((cs.take i).map fun c => Value.int (lo8 c)).length = i := by simp; omega
  have e3 : List.replicate (n - i) (Value.int 0) = .int 0 :: List.replicate (n - (i + 1)) (.int 0) := by
    rw [show n - i = n - (i + 1) + 1 by omega]; rfl
  unfold own_cmp
  rw [e1, List.map_append, e3, List.set_append_right _ _ (by omega), e2]
  simp
open StrChars.Road in
/-- x is a String of the chars cs -/
def OStr (Z : State) (h : Heap) (x : Addr) (cs : List Int32) : Prop := Exa Z h x "java/lang/String" ∧ (∀ c ∈ cs, ¬ c < 0 ∧ ¬ (65535 : Int32) < c) ∧ ∃ (t : Addr) (kb : ClassId) (cd N2 : Int32) (vs : List Value), Fld Z h x "java/lang/String" "value" "[B" (.ref t) ∧ Fld Z h x "java/lang/String" "coder" "B" (.int cd) ∧ Arv Z h t kb .byte N2 vs (.int 0) ∧ CodA cs cd N2 vs
theorem OStr.ext {Z : State} {h h' : Heap} {x : Addr} {cs : List Int32} (S : OStr Z h x cs) (E : Ext h h') : OStr Z h' x cs := by
  obtain ⟨s1, s2, t, kb, cd, N2, vs, s3, s4, s5, s6⟩ := S
  exact ⟨s1.ext E, s2, t, kb, cd, N2, vs, s3.ext E, s4.ext E, s5.ext E, s6⟩
theorem own_ext_wr {h h1 h2 : Heap} {a : Addr} {sl : Nat} {v : Value} (E : Ext h h1) (W : Wr h1 h2 a sl v) (q : h.size ≤ a) : Ext h h2 := by
  refine ⟨by rw [W.size]; exact E.1, fun x c hx => ?_⟩
  obtain ⟨cb', e1, -, -, -, e2, -⟩ := wr_at W (E.2 x c hx)
  have := (Array.getElem?_eq_some_iff.mp hx).1
  rw [e2 (Nat.ne_of_lt (Nat.lt_of_lt_of_le this q))] at e1; exact e1
theorem own_ext_keep {h h1 h2 : Heap} {ws : List Addr} (E : Ext h h1) (K : Keep h1 h2 ws) (q : ∀ x ∈ ws, h.size ≤ x) : Ext h h2 := by
  refine ⟨Nat.le_trans E.1 K.1, fun x c hx => K.2.1 x c (E.2 x c hx) fun z => ?_⟩
  have := (Array.getElem?_eq_some_iff.mp hx).1
  have := q x z
  omega
theorem own_ext_tr {h h1 h2 : Heap} (E : Ext h h1) (F : Ext h1 h2) : Ext h h2 := ⟨Nat.le_trans E.1 F.1, fun x c hx => F.2 x c (E.2 x c hx)⟩
theorem own_ext_rf (h : Heap) : Ext h h := ⟨Nat.le_refl _, fun _ _ q => q⟩
theorem own_keep_ext {h h' : Heap} {ws : List Addr} (E : Ext h h') : Keep h h' ws := (Keep.refl h ws).ext E
theorem own_pad0 {Z : State} {h : Heap} {a : Addr} {k : ClassId} {ty : FieldType} {N : Int32} {dv : Value} (n : Nat) (A : Arv Z h a k ty N [] dv) : Arv Z h a k ty N (List.replicate n dv) dv := A.pad fun i => by simpa using pad_rep [] dv n i
theorem own_b0 : ∀ c ∈ ([] : List Int32), ¬ c < 0 ∧ ¬ (255 : Int32) < c := fun _ q => nomatch q
theorem own_bc {c : Int32} {cs : List Int32} (q : ¬ c < 0 ∧ ¬ (255 : Int32) < c) (r : ∀ c ∈ cs, ¬ c < 0 ∧ ¬ (255 : Int32) < c) : ∀ x ∈ c :: cs, ¬ x < 0 ∧ ¬ (255 : Int32) < x := fun x hx => by
  rcases List.mem_cons.mp hx with rfl | z
  · exact q
  · exact r x z
theorem own_b255 (w : Int32) : ¬ (w &&& 255) < 0 ∧ ¬ (255 : Int32) < (w &&& 255) := by
  have q := c_and w 255 (by decide)
  have e : (255 : Int32).toInt = 255 := rfl
  have e0 : (0 : Int32).toInt = 0 := rfl
  rw [Int32.lt_iff_toInt_lt, Int32.lt_iff_toInt_lt]
  omega
theorem own_rem (pp : Int32) {n : Nat} (hn : n < 2 ^ 30) (hp : 0 < n) : ∃ i, i < n ∧ (pp &&& 2147483647) % Int32.ofNat n = Int32.ofNat i := by
  have q := (c_and pp 2147483647 (by decide)).1
  have e : (Int32.ofNat n).toInt = n := Int32.toInt_ofNat_of_lt (by omega)
  have r := (c_iremV (pp &&& 2147483647) (Int32.ofNat n)).1 q (by omega)
  refine ⟨((pp &&& 2147483647) % Int32.ofNat n).toInt.toNat, by omega, Int32.toInt_inj.mp ?_⟩
  rw [Int32.toInt_ofNat_of_lt (by omega)]
  omega
theorem own_bset (cs : List Int32) (i : Nat) {v : Int32} (hv : ¬ v < 0 ∧ ¬ (255 : Int32) < v) (h : ∀ c ∈ cs, ¬ c < 0 ∧ ¬ (255 : Int32) < c) : ∀ c ∈ cs.set i v, ¬ c < 0 ∧ ¬ (255 : Int32) < c := fun c hc => by
  rcases List.mem_or_eq_of_mem_set hc with z | rfl
  · exact h c z
  · exact hv
theorem own_dbl {i : Nat} (h : i < 2 ^ 29) : Int32.ofNat i <<< ((1 : Int32) &&& 31) = Int32.ofNat (2 * i) := by
  have q := c_ishl (Int32.ofNat i) 1 1 (by decide)
  have e1 : (Int32.ofNat i).toInt = i := Int32.toInt_ofNat_of_lt (by omega)
  have e2 : (Int32.ofNat (2 * i)).toInt = ((2 * i : Nat) : Int) := Int32.toInt_ofNat_of_lt (by omega)
  have r := rng32 (Int32.ofNat i <<< ((1 : Int32) &&& 31))
  apply Int32.toInt_inj.mp
  rw [e2]
  rw [e1] at q
  omega
theorem own_b16 {cs : List Int32} (h : ∀ c ∈ cs, ¬ c < 0 ∧ ¬ (255 : Int32) < c) : ∀ c ∈ cs, ¬ c < 0 ∧ ¬ (65535 : Int32) < c := fun c hc => ⟨(h c hc).1, fun q => (h c hc).2 (Int32.lt_trans (by decide) q)⟩
theorem own_all {cs : List Int32} {n : Nat} (hn : cs.length = n) (h : ∀ i, i < n → ¬ (255 : Int32) < cs.getD i 0) : ∀ c ∈ cs, ¬ (255 : Int32) < c := fun c hc => by
  obtain ⟨i, hi, rfl⟩ := List.getElem_of_mem hc
  have q := h i (by omega)
  have e : cs.getD i 0 = cs[i] := by simp [List.getD_eq_getElem?_getD, hi]
  rw [e] at q; exact q
open StrChars StrChars.Road in
theorem own_wlen : ∀ cs : List Int32, (wideBytes cs).length = 2 * cs.length
  | [] => rfl
  | c :: cs => by simp [wideBytes, own_wlen cs]; omega
open StrChars StrChars.Road in
/-- the byte[] when the first i chars are laid, two bytes each -/
def own_wide (cs : List Int32) (n i : Nat) : List Value := wideBytes (cs.take i) ++ List.replicate (2 * (n - i)) (.int 0)
theorem own_wide0 (cs : List Int32) (n : Nat) : own_wide cs n 0 = List.replicate (2 * n) (.int 0) := by simp [own_wide, StrChars.Road.wideBytes]
theorem own_widen (cs : List Int32) {n : Nat} (hn : cs.length = n) : own_wide cs n n = StrChars.Road.wideBytes cs := by subst hn; simp [own_wide]
theorem own_widelen (cs : List Int32) {n i : Nat} (hn : cs.length = n) (h : i ≤ n) : (own_wide cs n i).length = 2 * n := by simp [own_wide, own_wlen]; omega
open StrChars StrChars.Road in
theorem own_wapp : ∀ (cs : List Int32) (c : Int32), wideBytes (cs ++ [c]) = wideBytes cs ++ [.int (lo8 c), .int (hi8 c)]
  | [], c => rfl
  | d :: cs, c => by simp [wideBytes, own_wapp cs c]
open StrChars StrChars.Road in
theorem own_wideset (cs : List Int32) {n i : Nat} (hn : cs.length = n) (h : i < n) : ((own_wide cs n i).set (2 * i) (.int (lo8 (cs.getD i 0)))).set (2 * i + 1) (.int (hi8 (cs.getD i 0))) = own_wide cs n (i + 1) := by
  have hl : i < cs.length := by omega
  have e1 : cs.take (i + 1) = cs.take i ++ [cs.getD i 0] := by
    rw [List.take_succ]; simp [List.getD_eq_getElem?_getD, hl]
  have e2 : (wideBytes (cs.take i)).length = 2 * i := by rw [own_wlen, List.length_take]; omega
  have e3 : List.replicate (2 * (n - i)) (Value.int 0) = .int 0 :: .int 0 :: List.replicate (2 * (n - (i + 1))) (.int 0) := by
    rw [show 2 * (n - i) = 2 * (n - (i + 1)) + 1 + 1 by omega]; rfl
  unfold own_wide
  rw [e1, own_wapp, e3, List.set_append_right _ _ (by omega), List.set_append_right _ _ (by omega), e2]
  simp
theorem own_neg {n : Nat} (h0 : 0 < n) (h : n < 2 ^ 29) : (XT.ushr (Int32.ofNat n - Int32.ofNat (2 * n)) 31).toInt8.toInt32 = 1 := by
  have e1 : (Int32.ofNat n).toInt = n := Int32.toInt_ofNat_of_lt (by omega)
  have e2 : (Int32.ofNat (2 * n)).toInt = ((2 * n : Nat) : Int) := Int32.toInt_ofNat_of_lt (by omega)
  have q := c_isub (Int32.ofNat n) (Int32.ofNat (2 * n))
  have r := rng32 (Int32.ofNat n - Int32.ofNat (2 * n))
  have u := c_iushr (Int32.ofNat n - Int32.ofNat (2 * n)) 31 31 (by decide) (by decide)
  have e3 : XT.ushr (Int32.ofNat n - Int32.ofNat (2 * n)) 31 = 1 := by
    apply Int32.toInt_inj.mp
    show ((Int32.ofNat n - Int32.ofNat (2 * n)).toUInt32 >>> ((31 : Int32) &&& 31).toUInt32).toInt32.toInt = 1
    rw [u]
    rw [e1, e2] at q
    omega
  rw [e3]; rfl
theorem own_mem {cs : List Int32} {i : Nat} (h : i < cs.length) : cs.getD i 0 ∈ cs := by
  have e : cs.getD i 0 = cs[i] := by simp [List.getD_eq_getElem?_getD, h]
  rw [e]; exact List.getElem_mem _
theorem own_nlt {i n : Nat} (hi : i < 2 ^ 30) (h : n ≤ i) : ¬ Int32.ofNat i < Int32.ofNat n := fun q => by
  rw [Int32.lt_iff_toInt_lt, Int32.toInt_ofNat_of_lt (by omega), Int32.toInt_ofNat_of_lt (by omega)] at q
  omega
theorem own_allg {bl : List Int32} (h : ∀ i, i < bl.length → ¬ bl.getD i 0 < (0 : Int32)) : ∀ b ∈ bl, ¬ b < (0 : Int32) := fun c hc => by
  obtain ⟨i, hi, rfl⟩ := List.getElem_of_mem hc
  have q := h i hi
  have e : bl.getD i 0 = bl[i] := by simp [List.getD_eq_getElem?_getD, hi]
  rw [e] at q; exact q
theorem own_inj {a b : Nat} (ha : a < 2 ^ 30) (hb : b < 2 ^ 30) (h : Int32.ofNat a = Int32.ofNat b) : a = b := by
  have q := congrArg Int32.toInt h
  rw [Int32.toInt_ofNat_of_lt (by omega), Int32.toInt_ofNat_of_lt (by omega)] at q
  omega
/-! facts of the start, out of the sheet's words -/
theorem own_len {Z : State} {args : Array Value} {t : Term} {a : Addr} {cl : Cell} {ty : FieldType} {N : Int32} (ev : t.eval args Z none [] Z = some (.ref a)) (A : Arr Z Z.heap a cl ty) (h : (Jvm.Cond.eq (.length t) (.int N)).value args Z none Z [] = some true) : cl.slots.size < 2 ^ 31 ∧ cl.slots.size.toInt32 = N := by
  have e := eqv_i (Term.int_eval N) h
  have ha : Z.arrayAt? a = some cl := A.fin (Vm.Alike.refl _)
  by_cases q : cl.slots.size < 2 ^ 31
  · rw [len_f ev ha q] at e
    exact ⟨q, Value.int.inj (Option.some.inj e)⟩
  · simp [Term.eval, ev, ha] at e
    exact absurd e.1 q
theorem own_el {Z : State} {args : Array Value} {t : Term} {a : Addr} {cl : Cell} {j b : Int32} (ev : t.eval args Z none [] Z = some (.ref a)) (hc : Z.heap[a]? = some cl) (h : (Jvm.Cond.eq (.elem t (.int j)) (.int b)).value args Z none Z [] = some true) : cl.slots[j.toNatClampNeg]? = some (.int b) := (elem_in (eqv_i (Term.int_eval b) h) ev (Term.int_eval j) hc).2
theorem own_eqR {Z : State} {args : Array Value} {X F : Term} {y : Addr} (hF : F.eval args Z none [] Z = some (.ref y)) (h : (Jvm.Cond.eq X F).value args Z none Z [] = some true) : X.eval args Z none [] Z = some (.ref y) := by
  obtain ⟨x, y', e1, e2, k1, k2⟩ := cmp_v (Or.inl h)
  cases hF.symm.trans e2
  have hx : x.isRef = true := by cases x <;> simp_all [Kin, Value.isRef]
  have q := gotT (eq_R e1 hF hx rfl) h
  rw [e1, q]
theorem own_elR {Z : State} {args : Array Value} {t F : Term} {a y : Addr} {cl : Cell} {j : Int32} (ev : t.eval args Z none [] Z = some (.ref a)) (hc : Z.heap[a]? = some cl) (hF : F.eval args Z none [] Z = some (.ref y)) (h : (Jvm.Cond.eq (.elem t (.int j)) F).value args Z none Z [] = some true) : cl.slots[j.toNatClampNeg]? = some (.ref y) := (elem_in (own_eqR hF h) ev (Term.int_eval j) hc).2
theorem own_strZ {Z : State} {args : Array Value} {t : Term} {q : Addr} {N : Int32} {cs : List Int32} (hf : Fit Z) (eq : t.eval args Z none [] Z = some (.ref q)) (cx : (Jvm.Cond.exactly t "java/lang/String").value args Z none Z [] = some true) (cc : (Jvm.Cond.eq (.field t "java/lang/String" "coder" "B") (.int 0)).value args Z none Z [] = some true) (ca : (Jvm.Cond.arrayOf (.field t "java/lang/String" "value" "[B") .byte).value args Z none Z [] = some true) (cl : (Jvm.Cond.eq (.length (.field t "java/lang/String" "value" "[B")) (.int N)).value args Z none Z [] = some true)
    (hN : ¬ N < 0) (hl : N.toNatClampNeg = cs.length) (hN' : N = Int32.ofNat cs.length) (hb : ∀ c ∈ cs, ¬ c < 0 ∧ ¬ (255 : Int32) < c) (H : ∀ (b : Addr) (cell : Cell), (Term.field t "java/lang/String" "value" "[B").eval args Z none [] Z = some (.ref b) → Z.heap[b]? = some cell → HasL cell 0 (cs.map fun c => Value.int (StrChars.lo8 c))) : OStr Z Z.heap q cs := by
  obtain ⟨b, eb⟩ := arr_v ca
  obtain ⟨cell, A⟩ := Arr.start eb ca
  obtain ⟨l1, l2⟩ := own_len eb A cl
  have ec := eqv_i (Term.int_eval 0) cc
  refine ⟨Exa.start eq cx, fun c hc => ⟨(hb c hc).1, fun z => (hb c hc).2 (Int32.lt_trans (by decide) z)⟩, b, cell.cls, 0, N, _, Fld.start ((fld_at eq).symm.trans eb), Fld.start ((fld_at eq).symm.trans ec), Arv.start hf A l1 l2 hN (by rw [List.length_map]; exact hl) (H b cell eb A.1), Or.inl ⟨rfl, hN', rfl, fun c hc => (hb c hc).2⟩⟩
theorem own_c0 {P : Jvm.Cond → Prop} : ∀ a ∈ ([] : List Jvm.Cond), P a := fun _ q => nomatch q
theorem own_cc {P : Jvm.Cond → Prop} {c : Jvm.Cond} {L : List Jvm.Cond} (q : P c) (r : ∀ a ∈ L, P a) : ∀ a ∈ c :: L, P a := fun a ha => by
  rcases List.mem_cons.mp ha with rfl | z
  · exact q
  · exact r a z
def own_text (k : Nat) : String := match tables_1[k]? with | some (.stringLink _ _ t) => t | _ => ""
theorem own_str {Z : State} {a0 : Array Value} (hw : ∀ d ∈ tables_1, d.before a0 Z = true) : ∀ a ∈ Bundle.stringAtoms, a.before a0 Z = true :=
  own_cc (hw _ (List.mem_of_getElem? (i := 7) rfl)) (own_cc (hw _ (List.mem_of_getElem? (i := 6) rfl)) (own_cc (hw _ (List.mem_of_getElem? (i := 23) rfl)) (own_cc (hw _ (List.mem_of_getElem? (i := 33) rfl)) (own_cc (hw _ (List.mem_of_getElem? (i := 31) rfl)) (own_cc (hw _ (List.mem_of_getElem? (i := 72) rfl)) (own_cc (hw _ (List.mem_of_getElem? (i := 73) rfl)) (own_c0)))))))
theorem dS0_0 : decode jdk_52_method_21_code 0 = .ok (.iconst 0, 1) := by decide +kernel
theorem dS0_1 : decode jdk_52_method_21_code 1 = .ok (.istore 5, 2) := by decide +kernel
theorem dS0_3 : decode jdk_52_method_21_code 3 = .ok (.iload 5, 2) := by decide +kernel
theorem dS0_5 : decode jdk_52_method_21_code 5 = .ok (.iload 4, 2) := by decide +kernel
theorem dS0_7 : decode jdk_52_method_21_code 7 = .ok (.if_icmp .ge 37, 3) := by decide +kernel
theorem dS0_10 : decode jdk_52_method_21_code 10 = .ok (.aload_n 0, 1) := by decide +kernel
theorem dS0_11 : decode jdk_52_method_21_code 11 = .ok (.iload_n 1, 1) := by decide +kernel
theorem dS0_12 : decode jdk_52_method_21_code 12 = .ok (.caload, 1) := by decide +kernel
theorem dS0_13 : decode jdk_52_method_21_code 13 = .ok (.istore 6, 2) := by decide +kernel
theorem dS0_15 : decode jdk_52_method_21_code 15 = .ok (.iload 6, 2) := by decide +kernel
theorem dS0_17 : decode jdk_52_method_21_code 17 = .ok (.sipush 255, 3) := by decide +kernel
theorem dS0_20 : decode jdk_52_method_21_code 20 = .ok (.if_icmp .le 6, 3) := by decide +kernel
theorem dS0_23 : decode jdk_52_method_21_code 23 = .ok (.iload 5, 2) := by decide +kernel
theorem dS0_25 : decode jdk_52_method_21_code 25 = .ok (.ireturn, 1) := by decide +kernel
theorem dS0_26 : decode jdk_52_method_21_code 26 = .ok (.aload_n 2, 1) := by decide +kernel
theorem dS0_27 : decode jdk_52_method_21_code 27 = .ok (.iload_n 3, 1) := by decide +kernel
theorem dS0_28 : decode jdk_52_method_21_code 28 = .ok (.iload 6, 2) := by decide +kernel
theorem dS0_30 : decode jdk_52_method_21_code 30 = .ok (.i2b, 1) := by decide +kernel
theorem dS0_31 : decode jdk_52_method_21_code 31 = .ok (.bastore, 1) := by decide +kernel
theorem dS0_32 : decode jdk_52_method_21_code 32 = .ok (.iinc 1 1, 3) := by decide +kernel
theorem dS0_35 : decode jdk_52_method_21_code 35 = .ok (.iinc 3 1, 3) := by decide +kernel
theorem dS0_38 : decode jdk_52_method_21_code 38 = .ok (.iinc 5 1, 3) := by decide +kernel
theorem dS0_41 : decode jdk_52_method_21_code 41 = .ok (.goto (-38), 3) := by decide +kernel
theorem dS0_44 : decode jdk_52_method_21_code 44 = .ok (.iload 4, 2) := by decide +kernel
theorem dS0_46 : decode jdk_52_method_21_code 46 = .ok (.ireturn, 1) := by decide +kernel
theorem dS1_0 : decode jdk_52_method_16_code 0 = .ok (.iload_n 2, 1) := by decide +kernel
theorem dS1_1 : decode jdk_52_method_16_code 1 = .ok (.newarray .byte, 2) := by decide +kernel
theorem dS1_3 : decode jdk_52_method_16_code 3 = .ok (.astore_n 3, 1) := by decide +kernel
theorem dS1_4 : decode jdk_52_method_16_code 4 = .ok (.aload_n 0, 1) := by decide +kernel
theorem dS1_5 : decode jdk_52_method_16_code 5 = .ok (.iload_n 1, 1) := by decide +kernel
theorem dS1_6 : decode jdk_52_method_16_code 6 = .ok (.aload_n 3, 1) := by decide +kernel
theorem dS1_7 : decode jdk_52_method_16_code 7 = .ok (.iconst 0, 1) := by decide +kernel
theorem dS1_8 : decode jdk_52_method_16_code 8 = .ok (.iload_n 2, 1) := by decide +kernel
theorem dS1_9 : decode jdk_52_method_16_code 9 = .ok (.invokestatic 115, 3) := by decide +kernel
theorem dS1_12 : decode jdk_52_method_16_code 12 = .ok (.istore 4, 2) := by decide +kernel
theorem dS1_14 : decode jdk_52_method_16_code 14 = .ok (.iload 4, 2) := by decide +kernel
theorem dS1_16 : decode jdk_52_method_16_code 16 = .ok (.iload_n 2, 1) := by decide +kernel
theorem dS1_17 : decode jdk_52_method_16_code 17 = .ok (.if_icmp .eq 40, 3) := by decide +kernel
theorem dS1_20 : decode jdk_52_method_16_code 20 = .ok (.aload_n 0, 1) := by decide +kernel
theorem dS1_21 : decode jdk_52_method_16_code 21 = .ok (.iload_n 1, 1) := by decide +kernel
theorem dS1_22 : decode jdk_52_method_16_code 22 = .ok (.iload_n 2, 1) := by decide +kernel
theorem dS1_23 : decode jdk_52_method_16_code 23 = .ok (.invokestatic 119, 3) := by decide +kernel
theorem dS1_26 : decode jdk_52_method_16_code 26 = .ok (.astore 5, 2) := by decide +kernel
theorem dS1_28 : decode jdk_52_method_16_code 28 = .ok (.aload 5, 2) := by decide +kernel
theorem dS1_30 : decode jdk_52_method_16_code 30 = .ok (.iload 4, 2) := by decide +kernel
theorem dS1_32 : decode jdk_52_method_16_code 32 = .ok (.invokestatic 71, 3) := by decide +kernel
theorem dS1_35 : decode jdk_52_method_16_code 35 = .ok (.sipush 255, 3) := by decide +kernel
theorem dS1_38 : decode jdk_52_method_16_code 38 = .ok (.if_icmp .gt 16, 3) := by decide +kernel
theorem dS1_41 : decode jdk_52_method_16_code 41 = .ok (.aload 5, 2) := by decide +kernel
theorem dS1_43 : decode jdk_52_method_16_code 43 = .ok (.iconst 0, 1) := by decide +kernel
theorem dS1_44 : decode jdk_52_method_16_code 44 = .ok (.aload_n 3, 1) := by decide +kernel
theorem dS1_45 : decode jdk_52_method_16_code 45 = .ok (.iconst 0, 1) := by decide +kernel
theorem dS1_46 : decode jdk_52_method_16_code 46 = .ok (.iload_n 2, 1) := by decide +kernel
theorem dS1_47 : decode jdk_52_method_16_code 47 = .ok (.invokestatic 123, 3) := by decide +kernel
theorem dS1_50 : decode jdk_52_method_16_code 50 = .ok (.iload_n 2, 1) := by decide +kernel
theorem dS1_51 : decode jdk_52_method_16_code 51 = .ok (.if_icmp .eq 6, 3) := by decide +kernel
theorem dS1_54 : decode jdk_52_method_16_code 54 = .ok (.aload 5, 2) := by decide +kernel
theorem dS1_56 : decode jdk_52_method_16_code 56 = .ok (.areturn, 1) := by decide +kernel
theorem dS1_57 : decode jdk_52_method_16_code 57 = .ok (.aload_n 3, 1) := by decide +kernel
theorem dS1_58 : decode jdk_52_method_16_code 58 = .ok (.areturn, 1) := by decide +kernel
theorem dS2_0 : decode jdk_52_method_15_code 0 = .ok (.iload_n 1, 1) := by decide +kernel
theorem dS2_1 : decode jdk_52_method_15_code 1 = .ok (.aload_n 0, 1) := by decide +kernel
theorem dS2_2 : decode jdk_52_method_15_code 2 = .ok (.arraylength, 1) := by decide +kernel
theorem dS2_3 : decode jdk_52_method_15_code 3 = .ok (.isub, 1) := by decide +kernel
theorem dS2_4 : decode jdk_52_method_15_code 4 = .ok (.bipush 31, 2) := by decide +kernel
theorem dS2_6 : decode jdk_52_method_15_code 6 = .ok (.iushr, 1) := by decide +kernel
theorem dS2_7 : decode jdk_52_method_15_code 7 = .ok (.i2b, 1) := by decide +kernel
theorem dS2_8 : decode jdk_52_method_15_code 8 = .ok (.ireturn, 1) := by decide +kernel
theorem dS3_0 : decode jdk_42_method_149_code 0 = .ok (.aload_n 0, 1) := by decide +kernel
theorem dS3_1 : decode jdk_42_method_149_code 1 = .ok (.invokespecial 1, 3) := by decide +kernel
theorem dS3_4 : decode jdk_42_method_149_code 4 = .ok (.iload_n 3, 1) := by decide +kernel
theorem dS3_5 : decode jdk_42_method_149_code 5 = .ok (.ifCond .ne 22, 3) := by decide +kernel
theorem dS3_8 : decode jdk_42_method_149_code 8 = .ok (.aload_n 0, 1) := by decide +kernel
theorem dS3_9 : decode jdk_42_method_149_code 9 = .ok (.ldc 7, 2) := by decide +kernel
theorem dS3_11 : decode jdk_42_method_149_code 11 = .ok (.getfield 9, 3) := by decide +kernel
theorem dS3_14 : decode jdk_42_method_149_code 14 = .ok (.putfield 9, 3) := by decide +kernel
theorem dS3_17 : decode jdk_42_method_149_code 17 = .ok (.aload_n 0, 1) := by decide +kernel
theorem dS3_18 : decode jdk_42_method_149_code 18 = .ok (.ldc 7, 2) := by decide +kernel
theorem dS3_20 : decode jdk_42_method_149_code 20 = .ok (.getfield 15, 3) := by decide +kernel
theorem dS3_23 : decode jdk_42_method_149_code 23 = .ok (.putfield 15, 3) := by decide +kernel
theorem dS3_26 : decode jdk_42_method_149_code 26 = .ok (.return_, 1) := by decide +kernel
theorem dS3_27 : decode jdk_42_method_149_code 27 = .ok (.getstatic 38, 3) := by decide +kernel
theorem dS3_30 : decode jdk_42_method_149_code 30 = .ok (.ifCond .eq 28, 3) := by decide +kernel
theorem dS3_33 : decode jdk_42_method_149_code 33 = .ok (.aload_n 1, 1) := by decide +kernel
theorem dS3_34 : decode jdk_42_method_149_code 34 = .ok (.iload_n 2, 1) := by decide +kernel
theorem dS3_35 : decode jdk_42_method_149_code 35 = .ok (.iload_n 3, 1) := by decide +kernel
theorem dS3_36 : decode jdk_42_method_149_code 36 = .ok (.invokestatic 177, 3) := by decide +kernel
theorem dS3_39 : decode jdk_42_method_149_code 39 = .ok (.astore 5, 2) := by decide +kernel
theorem dS3_41 : decode jdk_42_method_149_code 41 = .ok (.aload_n 0, 1) := by decide +kernel
theorem dS3_42 : decode jdk_42_method_149_code 42 = .ok (.aload 5, 2) := by decide +kernel
theorem dS3_44 : decode jdk_42_method_149_code 44 = .ok (.iload_n 3, 1) := by decide +kernel
theorem dS3_45 : decode jdk_42_method_149_code 45 = .ok (.invokestatic 47, 3) := by decide +kernel
theorem dS3_48 : decode jdk_42_method_149_code 48 = .ok (.putfield 15, 3) := by decide +kernel
theorem dS3_51 : decode jdk_42_method_149_code 51 = .ok (.aload_n 0, 1) := by decide +kernel
theorem dS3_52 : decode jdk_42_method_149_code 52 = .ok (.aload 5, 2) := by decide +kernel
theorem dS3_54 : decode jdk_42_method_149_code 54 = .ok (.putfield 9, 3) := by decide +kernel
theorem dS3_57 : decode jdk_42_method_149_code 57 = .ok (.return_, 1) := by decide +kernel
theorem dS3_58 : decode jdk_42_method_149_code 58 = .ok (.aload_n 0, 1) := by decide +kernel
theorem dS3_59 : decode jdk_42_method_149_code 59 = .ok (.iconst 1, 1) := by decide +kernel
theorem dS3_60 : decode jdk_42_method_149_code 60 = .ok (.putfield 15, 3) := by decide +kernel
theorem dS3_63 : decode jdk_42_method_149_code 63 = .ok (.aload_n 0, 1) := by decide +kernel
theorem dS3_64 : decode jdk_42_method_149_code 64 = .ok (.aload_n 1, 1) := by decide +kernel
theorem dS3_65 : decode jdk_42_method_149_code 65 = .ok (.iload_n 2, 1) := by decide +kernel
theorem dS3_66 : decode jdk_42_method_149_code 66 = .ok (.iload_n 3, 1) := by decide +kernel
theorem dS3_67 : decode jdk_42_method_149_code 67 = .ok (.invokestatic 180, 3) := by decide +kernel
theorem dS3_70 : decode jdk_42_method_149_code 70 = .ok (.putfield 9, 3) := by decide +kernel
theorem dS3_73 : decode jdk_42_method_149_code 73 = .ok (.return_, 1) := by decide +kernel
theorem dS4_0 : decode jdk_42_method_3_code 0 = .ok (.aload_n 0, 1) := by decide +kernel
theorem dS4_1 : decode jdk_42_method_3_code 1 = .ok (.aload_n 1, 1) := by decide +kernel
theorem dS4_2 : decode jdk_42_method_3_code 2 = .ok (.iconst 0, 1) := by decide +kernel
theorem dS4_3 : decode jdk_42_method_3_code 3 = .ok (.aload_n 1, 1) := by decide +kernel
theorem dS4_4 : decode jdk_42_method_3_code 4 = .ok (.arraylength, 1) := by decide +kernel
theorem dS4_5 : decode jdk_42_method_3_code 5 = .ok (.aconst_null, 1) := by decide +kernel
theorem dS4_6 : decode jdk_42_method_3_code 6 = .ok (.invokespecial 27, 3) := by decide +kernel
theorem dS4_9 : decode jdk_42_method_3_code 9 = .ok (.return_, 1) := by decide +kernel
theorem pd___CI_BII_I : parseMethodDescriptor "([CI[BII)I" = some ⟨[(.array .char), .int, (.array .byte), .int, .int], (some .int)⟩ := by decide +kernel
theorem pd___CII__B : parseMethodDescriptor "([CII)[B" = some ⟨[(.array .char), .int, .int], (some (.array .byte))⟩ := by decide +kernel
theorem pd___BI_B : parseMethodDescriptor "([BI)B" = some ⟨[(.array .byte), .int], (some .byte)⟩ := by decide +kernel
theorem pd___CIILjava_lang_Void__V : parseMethodDescriptor "([CIILjava/lang/Void;)V" = some ⟨[(.array .char), .int, .int, (.object "java/lang/Void")], none⟩ := by decide +kernel
theorem pd___C_V : parseMethodDescriptor "([C)V" = some ⟨[(.array .char)], none⟩ := by decide +kernel
theorem pn_java_lang_StringUTF16 : plainName "java/lang/StringUTF16" = true := by first | (simp [plainName, overriddenIn]; done) | decide +kernel
set_option maxRecDepth 65536 in
set_option maxHeartbeats 4000000 in
theorem con_cmp5 (l : Launch) (Z : State) (a0 : Array Value) (hw : ∀ d ∈ tables_1, d.before a0 Z = true) (hEL : EW Z a0 consts_1) (b d : Addr) (kC kB : ClassId) (cs : List Int32) (dv : Value) (n : Nat) (h0 : Heap) (hn : cs.length = n) (hcap : n ≤ 16) (K : Arv Z h0 b kC .char (Int32.ofNat n) (cs.map Value.int) dv) (D : Arv Z h0 d kB .byte (Int32.ofNat n) (List.replicate n (.int 0)) (.int 0)) (hne : b ≠ d) :
    Ocon l Z consts_1 (⟨"java/lang/StringUTF16", "compress", "([CI[BII)I"⟩ : MethodName) jdk_52_method_21_code 7 (some .int) [] ({ frames := 0, cells := 0, slots := 0, locals := 0 } : Room) #[(.ref b), (.int (0 : Int32)), (.ref d), (.int (0 : Int32)), (.int (Int32.ofNat n))] h0 [d] ((List.range 16).map fun i => (⟨d, i⟩ : Loc)) (fun v h _ => ∃ r, r ≤ n ∧ v = some (.int (Int32.ofNat r)) ∧ Keep h0 h [d] ∧ (∀ i, i < r → ¬ (255 : Int32) < cs.getD i 0) ∧ (r < n → (255 : Int32) < cs.getD r 0) ∧ Arv Z h d kB .byte (Int32.ofNat n) (own_cmp cs n r) (.int 0)) := by
  refine own_con (a0 := a0) hEL (plainFor_of_name pn_java_lang_StringUTF16) ?_
  intro p e s m below meth c T hs W0
  have loop : ∀ (kk i : Nat) (T : State) (h : Heap) (s6 : Slot), i + kk = n → (∀ i', i' < i → ¬ (255 : Int32) < cs.getD i' 0) → One s6 → Keep h0 h [d] → Arv Z h b kC .char (Int32.ofNat n) (cs.map Value.int) dv → Arv Z h d kB .byte (Int32.ofNat n) (own_cmp cs n i) (.int 0) → Owk p l e ({ frames := 0, cells := 0, slots := 0, locals := 0 } : Room) s m #[(.ref b), (.int (0 : Int32)), (.ref d), (.int (0 : Int32)), (.int (Int32.ofNat n))] below meth c Z a0 consts_1 ((List.range 16).map fun i => (⟨d, i⟩ : Loc)) "java/lang/StringUTF16" "compress" jdk_52_method_21_code 7 (some .int) T h [d] 0 0 → Ogo p l e ({ frames := 0, cells := 0, slots := 0, locals := 0 } : Room) s m #[(.ref b), (.int (0 : Int32)), (.ref d), (.int (0 : Int32)), (.int (Int32.ofNat n))] below meth c Z a0 consts_1 ((List.range 16).map fun i => (⟨d, i⟩ : Loc)) "java/lang/StringUTF16" "compress" jdk_52_method_21_code 7 (some .int) T (mkF m 3 #[.val (.ref b), .val (.int (Int32.ofNat i)), .val (.ref d), .val (.int (Int32.ofNat i)), .val (.int (Int32.ofNat n)), .val (.int (Int32.ofNat i)), s6] []) (fun v h _ => ∃ r, r ≤ n ∧ v = some (.int (Int32.ofNat r)) ∧ Keep h0 h [d] ∧ (∀ i, i < r → ¬ (255 : Int32) < cs.getD i 0) ∧ (r < n → (255 : Int32) < cs.getD r 0) ∧ Arv Z h d kB .byte (Int32.ofNat n) (own_cmp cs n r) (.int 0)) := by
    intro kk
    induction kk with
    | zero =>
      intro i T h s6 hi hb h6 hK hV hD W0
      obtain rfl : n = i := by omega
      refine g_iload W0 dS0_3 (pc' := 5) rfl rfl ?_
      refine g_iload W0 dS0_5 (pc' := 7) rfl rfl ?_
      refine g_icY W0 dS0_7 (pc' := 44) (flt Int32.lt_irrefl).2.1 (by decide) (by decide) ?_
      refine g_iload W0 dS0_44 (pc' := 46) rfl rfl ?_
      exact g_iret W0 dS0_46 rfl (Or.inl rfl) rfl ⟨n, Nat.le_refl _, rfl, hK, hb, fun q => absurd q (Nat.lt_irrefl _), hD⟩
    | succ kk ih =>
      intro i T h s6 hi hb h6 hK hV hD W0
      have hin : i < n := by omega
      have hlt := own_lt (by omega) hin
      have hcl : (Int32.ofNat n).toNatClampNeg = n := own_clamp (by omega)
      refine g_iload W0 dS0_3 (pc' := 5) rfl rfl ?_
      refine g_iload W0 dS0_5 (pc' := 7) rfl rfl ?_
      refine g_icN W0 dS0_7 (pc' := 10) (tlt hlt).2.1 rfl ?_
      refine g_aloadN W0 dS0_10 (pc' := 11) rfl rfl rfl ?_
      refine g_iloadN W0 dS0_11 (pc' := 12) rfl rfl ?_
      refine g_caload W0 dS0_12 (pc' := 13) rfl hV (i := i) rfl (by rw [hcl]; exact hin) (v := (.int (cs.getD i 0))) (own_getI cs dv (by omega)) ?_
      refine g_istore W0 dS0_13 (pc' := 15) (ls' := #[.val (.ref b), .val (.int (Int32.ofNat i)), .val (.ref d), .val (.int (Int32.ofNat i)), .val (.int (Int32.ofNat n)), .val (.int (Int32.ofNat i)), .val (.int (cs.getD i 0))]) rfl (XS.store1 (o := s6) rfl h6 rfl) ?_
      refine g_iload W0 dS0_15 (pc' := 17) rfl rfl ?_
      refine g_sipush W0 dS0_17 (pc' := 20) rfl (v := 255) rfl ?_
      by_cases c1 : (255 : Int32) < (cs.getD i 0)
      · skip
        refine g_icN W0 dS0_20 (pc' := 23) (tlt c1).2.2.2 rfl ?_
        refine g_iload W0 dS0_23 (pc' := 25) rfl rfl ?_
        exact g_iret W0 dS0_25 rfl (Or.inl rfl) rfl ⟨i, Nat.le_of_lt hin, rfl, hK, hb, fun _ => by assumption, hD⟩
      · skip
        refine g_icY W0 dS0_20 (pc' := 26) (flt c1).2.2.2 (by decide) (by decide) ?_
        refine g_aloadN W0 dS0_26 (pc' := 27) rfl rfl rfl ?_
        refine g_iloadN W0 dS0_27 (pc' := 28) rfl rfl ?_
        refine g_iload W0 dS0_28 (pc' := 30) rfl rfl ?_
        refine g_i2b W0 dS0_30 (pc' := 31) rfl ?_
        refine g_bastore W0 dS0_31 (pc' := 32) rfl hD (i := i) rfl (by rw [hcl]; exact hin) (by rw [own_cmplen cs hn (by omega)]; exact hin) (own_lo8 _) (own_cmpset cs hn hin) (by simp) (Or.inl (by simp; omega)) ?_
        intro T2 h3 w4 A5 W6
        refine g_iinc W6 dS0_32 (pc' := 35) (v := Int32.ofNat (i + 1)) (ls' := #[.val (.ref b), .val (.int (Int32.ofNat (i + 1))), .val (.ref d), .val (.int (Int32.ofNat i)), .val (.int (Int32.ofNat n)), .val (.int (Int32.ofNat i)), .val (.int (cs.getD i 0))]) rfl rfl (own_succ i) rfl ?_
        refine g_iinc W6 dS0_35 (pc' := 38) (v := Int32.ofNat (i + 1)) (ls' := #[.val (.ref b), .val (.int (Int32.ofNat (i + 1))), .val (.ref d), .val (.int (Int32.ofNat (i + 1))), .val (.int (Int32.ofNat n)), .val (.int (Int32.ofNat i)), .val (.int (cs.getD i 0))]) rfl rfl (own_succ i) rfl ?_
        refine g_iinc W6 dS0_38 (pc' := 41) (v := Int32.ofNat (i + 1)) (ls' := #[.val (.ref b), .val (.int (Int32.ofNat (i + 1))), .val (.ref d), .val (.int (Int32.ofNat (i + 1))), .val (.int (Int32.ofNat n)), .val (.int (Int32.ofNat (i + 1))), .val (.int (cs.getD i 0))]) rfl rfl (own_succ i) rfl ?_
        refine g_goto W6 dS0_41 (pc' := 3) (by decide) (by decide) ?_
        refine ih (i + 1) T2 h3 _ (by omega) (fun i' hi' => ?_) (One.val rfl) (hK.wr w4 (Or.inl (by simp))) (hV.other w4 hne) A5 W6
        by_cases q : i' = i
        · subst q; exact c1
        · exact hb i' (by omega)
  have ef : entryFrame m #[(.ref b), (.int (0 : Int32)), (.ref d), (.int (0 : Int32)), (.int (Int32.ofNat n))] 7 = mkF m 0 #[.val (.ref b), .val (.int (0 : Int32)), .val (.ref d), .val (.int (0 : Int32)), .val (.int (Int32.ofNat n)), .unset, .unset] [] := by first | rfl | (simp [entryFrame, mkF, argsToLocals, Value.category]; done)
  rw [ef]
  refine g_iconst W0 dS0_0 (pc' := 1) rfl (v := 0) rfl ?_
  refine g_istore W0 dS0_1 (pc' := 3) rfl (ls' := #[.val (.ref b), .val (.int (0 : Int32)), .val (.ref d), .val (.int (0 : Int32)), .val (.int (Int32.ofNat n)), .val (.int (0 : Int32)), .unset]) rfl ?_
  exact loop n 0 T h0 .unset (by omega) (fun i' hi' => absurd hi' (Nat.not_lt_zero _)) One.u (Keep.refl _ _) K (by rw [own_cmp0]; exact D) W0
set_option maxRecDepth 65536 in
set_option maxHeartbeats 4000000 in
theorem con_cmp3 (l : Launch) (Z : State) (a0 : Array Value) (hw : ∀ d ∈ tables_1, d.before a0 Z = true) (hEL : EW Z a0 consts_1) (b : Addr) (kC : ClassId) (cs : List Int32) (dv : Value) (n : Nat) (h0 : Heap) (O : Ext Z.heap h0)  (hn : cs.length = n) (hcap : n ≤ 16) (K : Arv Z h0 b kC .char (Int32.ofNat n) (cs.map Value.int) dv) (hb : ∀ c ∈ cs, ¬ c < 0 ∧ ¬ (65535 : Int32) < c) (hp : ∀ c ∈ cs, ¬ (255 : Int32) < c) :
    Ocon l Z consts_1 (⟨"java/lang/StringUTF16", "compress", "([CII)[B"⟩ : MethodName) jdk_52_method_16_code 6 (some (.array .byte)) [] ({ frames := 1, cells := 1, slots := 16, locals := 18 } : Room) #[(.ref b), (.int (0 : Int32)), (.int (Int32.ofNat n))] h0 [] [] (fun v h _ => ∃ (t : Addr) (kb : ClassId) (cd N2 : Int32) (vs : List Value), v = some (.ref t) ∧ Ext h0 h ∧ h0.size ≤ t ∧ Arv Z h t kb .byte N2 vs (.int 0) ∧ StrChars.Road.CodA cs cd N2 vs) := by
  refine own_con (a0 := a0) hEL (plainFor_of_name pn_java_lang_StringUTF16) ?_
  intro p e s m below meth c T hs W0
  have ef : entryFrame m #[(.ref b), (.int (0 : Int32)), (.int (Int32.ofNat n))] 6 = mkF m 0 #[.val (.ref b), .val (.int (0 : Int32)), .val (.int (Int32.ofNat n)), .unset, .unset, .unset] [] := by first | rfl | (simp [entryFrame, mkF, argsToLocals, Value.category]; done)
  rw [ef]
  have hcl : (Int32.ofNat n).toNatClampNeg = n := own_clamp (by omega)
  have hcl2 : (Int32.ofNat (2 * n)).toNatClampNeg = 2 * n := own_clamp (by omega)
  refine g_iloadN W0 dS1_0 (pc' := 1) rfl rfl ?_
  refine g_newP W0 dS1_1 (pc' := 3) (cap := 16) rfl (ty := .byte) (dv := (.int 0)) rfl rfl (hw _ (List.mem_of_getElem? (i := 23) rfl)) (own_nn (by omega)) (by rw [hcl]; exact hcap) (by decide) (by decide) (by decide) ?_
  intro T7 h8 cA9 E10 A11 W12
  obtain ⟨a13, g14⟩ : ∃ z, z = h0.size := ⟨_, rfl⟩
  rw [← g14] at A11 W12 ⊢
  refine g_astoreN W12 dS1_3 (pc' := 4) rfl (ls' := #[.val (.ref b), .val (.int (0 : Int32)), .val (.int (Int32.ofNat n)), .val (.ref a13), .unset, .unset]) rfl rfl ?_
  refine g_aloadN W12 dS1_4 (pc' := 5) rfl rfl rfl ?_
  refine g_iloadN W12 dS1_5 (pc' := 6) rfl rfl ?_
  refine g_aloadN W12 dS1_6 (pc' := 7) rfl rfl rfl ?_
  refine g_iconst W12 dS1_7 (pc' := 8) rfl (v := 0) rfl ?_
  refine g_iloadN W12 dS1_8 (pc' := 9) rfl rfl ?_
  have hne : b ≠ a13 := Nat.ne_of_lt (by rw [g14]; exact K.lt)
  refine g_static W12 dS1_9 (pc' := 12) rfl (hw _ (List.mem_of_getElem? (i := 24) rfl)) (hw _ (List.mem_of_getElem? (i := 25) rfl)) (hw _ (List.mem_of_getElem? (i := 21) rfl)) (hw _ (List.mem_of_getElem? (i := 26) rfl)) (by decide) (con_cmp5 l Z a0 hw hEL b a13 kC cA9 cs dv n h8 hn hcap (K.ext E10) (own_pad0 n A11) hne) pd___CI_BII_I (argsL := [(.ref b), (.int (0 : Int32)), (.ref a13), (.int (0 : Int32)), (.int (Int32.ofNat n))]) (st := []) rfl rfl rfl rfl (by decide) (w := 0) (Nat.le_of_eq rfl) (by decide) (by decide) (by decide) (by simp) (fun q hq => Or.inr (by obtain ⟨i, -, rfl⟩ := List.mem_map.mp hq; show s.heap.size ≤ a13; rw [g14]; exact W0.grown)) ?_
  intro v15 T16 h17 S20 q18 W21
  have W19 := W21.sf (SF' := [a13]) (fun _ hx => List.mem_append_right _ hx)
  obtain ⟨r, hr1, rfl, hK, hr2, hr3, hD⟩ := q18
  have X1 : Ext h0 h17 := own_ext_keep E10 hK (by intro x hx; rw [List.mem_singleton.mp hx, g14]; exact Nat.le_refl _)
  refine g_istore W19 dS1_12 (pc' := 14) rfl (ls' := #[.val (.ref b), .val (.int (0 : Int32)), .val (.int (Int32.ofNat n)), .val (.ref a13), .val (.int (Int32.ofNat r)), .unset]) rfl ?_
  refine g_iload W19 dS1_14 (pc' := 16) rfl rfl ?_
  refine g_iloadN W19 dS1_16 (pc' := 17) rfl rfl ?_
  rcases Nat.lt_or_ge r n with hrn | hrn
  · skip
    exact absurd (hr3 hrn) (hp _ (own_mem (by omega)))
  · skip
    obtain rfl : n = r := by omega
    refine g_icY W19 dS1_17 (pc' := 57) (teq rfl).1 (by decide) (by decide) ?_
    rw [own_cmpn cs hn] at hD
    refine g_aloadN W19 dS1_57 (pc' := 58) rfl rfl rfl ?_
    exact g_aret W19 dS1_58 rfl rfl rfl rfl ⟨a13, _, 0, _, _, rfl, X1, (by first | exact Nat.le_refl _ | exact Nat.le_of_eq g14.symm), hD, Or.inl ⟨rfl, by rw [hn], rfl, fun c hc => own_all hn hr2 c hc⟩⟩
set_option maxRecDepth 65536 in
set_option maxHeartbeats 4000000 in
theorem con_cod (l : Launch) (Z : State) (a0 : Array Value) (hw : ∀ d ∈ tables_1, d.before a0 Z = true) (hEL : EW Z a0 consts_1) (t : Addr) (kb : ClassId) (cs : List Int32) (cd N2 : Int32) (vs : List Value) (dv : Value) (n : Nat) (h0 : Heap) (hn : cs.length = n) (hcap : n ≤ 16) (K : Arv Z h0 t kb .byte N2 vs dv) (hc : StrChars.Road.CodA cs cd N2 vs) :
    Ocon l Z consts_1 (⟨"java/lang/StringUTF16", "coderFromArrayLen", "([BI)B"⟩ : MethodName) jdk_52_method_15_code 2 (some .byte) [] ({ frames := 0, cells := 0, slots := 0, locals := 0 } : Room) #[(.ref t), (.int (Int32.ofNat n))] h0 [] [] (fun v h _ => v = some (.int cd) ∧ (cd = 0 ∨ cd = 1) ∧ h0 = h) := by
  refine own_con (a0 := a0) hEL (plainFor_of_name pn_java_lang_StringUTF16) ?_
  intro p e s m below meth c T hs W0
  have ef : entryFrame m #[(.ref t), (.int (Int32.ofNat n))] 2 = mkF m 0 #[.val (.ref t), .val (.int (Int32.ofNat n))] [] := by first | rfl | (simp [entryFrame, mkF, argsToLocals, Value.category]; done)
  rw [ef]
  refine g_iloadN W0 dS2_0 (pc' := 1) rfl rfl ?_
  refine g_aloadN W0 dS2_1 (pc' := 2) rfl rfl rfl ?_
  refine g_alen W0 dS2_2 (pc' := 3) rfl K ?_
  refine g_isub W0 dS2_3 (pc' := 4) rfl ?_
  refine g_bipush W0 dS2_4 (pc' := 6) rfl (v := 31) rfl ?_
  refine g_iushr W0 dS2_6 (pc' := 7) rfl ?_
  refine g_i2b W0 dS2_7 (pc' := 8) rfl ?_
  rcases hc with ⟨rfl, rfl, -, -⟩ | ⟨rfl, rfl, -, c1, hc1, -⟩
  · skip
    rw [show ((XT.ushr ((Int32.ofNat n) - (Int32.ofNat cs.length)) (31 : Int32))).toInt8.toInt32 = 0 from by rw [hn, Int32.sub_self]; decide]
    exact g_iret W0 dS2_8 rfl (Or.inr (Or.inr (Or.inl rfl))) rfl ⟨rfl, Or.inl rfl, rfl⟩
  · skip
    rw [show ((XT.ushr ((Int32.ofNat n) - (Int32.ofNat (2 * cs.length))) (31 : Int32))).toInt8.toInt32 = 1 from by subst hn; exact own_neg (List.length_pos_of_mem hc1) (by omega)]
    exact g_iret W0 dS2_8 rfl (Or.inr (Or.inr (Or.inl rfl))) rfl ⟨rfl, Or.inr rfl, rfl⟩
theorem pn_java_lang_String : plainName "java/lang/String" = true := by first | (simp [plainName, overriddenIn]; done) | decide +kernel
set_option maxRecDepth 65536 in
set_option maxHeartbeats 4000000 in
theorem con_new4 (l : Launch) (Z : State) (a0 : Array Value) (hw : ∀ d ∈ tables_1, d.before a0 Z = true) (hEL : EW Z a0 consts_1) (x b : Addr) (kC : ClassId) (cs : List Int32) (dv v0 c0 : Value) (z : Int32) (n : Nat) (h0 : Heap) (O : Ext Z.heap h0) (hp : ∀ c ∈ cs, ¬ (255 : Int32) < c) (hx : Z.heap.size ≤ x) (hn : cs.length = n) (hcap : n ≤ 16) (E : Exa Z h0 x "java/lang/String") (FV : Fld Z h0 x "java/lang/String" "value" "[B" v0) (FC : Fld Z h0 x "java/lang/String" "coder" "B" c0) (K : Arv Z h0 b kC .char (Int32.ofNat n) (cs.map Value.int) dv) (hb : ∀ c ∈ cs, ¬ c < 0 ∧ ¬ (65535 : Int32) < c) (SC : Sta Z Z.heap "java/lang/String" "COMPACT_STRINGS" "Z" (.int z)) (hz : ¬ z = 0) :
    Ocon l Z consts_1 (⟨"java/lang/String", "<init>", "([CIILjava/lang/Void;)V"⟩ : MethodName) jdk_42_method_149_code 6 none [] ({ frames := 2, cells := 4, slots := 24, locals := 35 } : Room) #[(.ref x), (.ref b), (.int (0 : Int32)), (.int (Int32.ofNat n)), .null] h0 [x] [(⟨x, RoadKit.slotOf Z "java/lang/String" "coder" "B"⟩ : Loc), (⟨x, RoadKit.slotOf Z "java/lang/String" "value" "[B"⟩ : Loc)] (fun v h _ => v = none ∧ Keep h0 h [x] ∧ OStr Z h x cs) := by
  refine own_con (a0 := a0) hEL (plainFor_of_name pn_java_lang_String) ?_
  intro p e s m below meth c T hs W0
  have ef : entryFrame m #[(.ref x), (.ref b), (.int (0 : Int32)), (.int (Int32.ofNat n)), .null] 6 = mkF m 0 #[.val (.ref x), .val (.ref b), .val (.int (0 : Int32)), .val (.int (Int32.ofNat n)), .val .null, .unset] [] := by first | rfl | (simp [entryFrame, mkF, argsToLocals, Value.category]; done)
  rw [ef]
  have hsl : RoadKit.slotOf Z "java/lang/String" "value" "[B" ≠ RoadKit.slotOf Z "java/lang/String" "coder" "B" := slot_ne (t := .array .byte) (t' := .byte) (Or.inr (hw _ (List.mem_of_getElem? (i := 33) rfl))) (Or.inr (hw _ (List.mem_of_getElem? (i := 31) rfl))) (by decide) (by decide) (by decide)
  have hSt : ∀ a ∈ Bundle.stringAtoms, a.before a0 Z = true := own_str hw
  refine g_aloadN W0 dS3_0 (pc' := 1) rfl rfl rfl ?_
  refine g_initO W0 dS3_1 (pc' := 4) rfl (hw _ (List.mem_of_getElem? (i := 15) rfl)) (hw _ (List.mem_of_getElem? (i := 16) rfl)) (hw _ (List.mem_of_getElem? (i := 17) rfl)) rfl (by decide) (w := 0) (Nat.le_refl _) (by decide) ?_
  intro T22 W23
  refine g_iloadN W23 dS3_4 (pc' := 5) rfl rfl ?_
  rcases Nat.eq_zero_or_pos n with hn0 | hn0
  · skip
    subst hn0
    obtain rfl : cs = [] := List.length_eq_zero_iff.mp hn
    refine g_ifN W23 dS3_5 (pc' := 8) (teq (rfl : Int32.ofNat 0 = 0)).2 rfl ?_
    refine g_aloadN W23 dS3_8 (pc' := 9) rfl rfl rfl ?_
    refine g_ldcS W23 dS3_9 (pc' := 11) (text := "") (vs := []) (z := 0) (n := 0) rfl (hw _ (List.mem_of_getElem? (i := 84) rfl)) hSt (by decide) ⟨by decide, rfl⟩ (by decide) rfl (by decide) (by decide) (by decide) (by decide) ?_
    intro T24 h25 a26 b27 k28 E29 f30 f31 f32 f33 W34
    refine g_getF W34 dS3_11 (pc' := 14) rfl (hw _ (List.mem_of_getElem? (i := 32) rfl)) f32 ?_
    intro T36 W35
    refine g_putF W35 dS3_14 (pc' := 17) rfl (hw _ (List.mem_of_getElem? (i := 32) rfl)) (FV.ext E29) (E.ext E29) (Or.inr ⟨(hw _ (List.mem_of_getElem? (i := 33) rfl)), rfl, rfl⟩) (hw _ (List.mem_of_getElem? (i := 6) rfl)) (ty := .array .byte) (by decide) rfl rfl (by simp) (Or.inl (by simp)) ?_
    intro T37 h38 w39 W40
    refine g_aloadN W40 dS3_17 (pc' := 18) rfl rfl rfl ?_
    refine g_ldcS W40 dS3_18 (pc' := 20) (text := "") (vs := []) (z := 0) (n := 0) rfl (hw _ (List.mem_of_getElem? (i := 84) rfl)) hSt (by decide) ⟨by decide, rfl⟩ (by decide) rfl (by decide) (by decide) (by decide) (by decide) ?_
    intro T41 h42 a43 b44 k45 E46 f47 f48 f49 f50 W51
    refine g_getF W51 dS3_20 (pc' := 23) rfl (hw _ (List.mem_of_getElem? (i := 30) rfl)) f48 ?_
    intro T53 W52
    refine g_putF W52 dS3_23 (pc' := 26) rfl (hw _ (List.mem_of_getElem? (i := 30) rfl)) (((FC.ext E29).other w39 (Or.inr (Ne.symm hsl))).ext E46) (((E.ext E29).wr w39).ext E46) (Or.inr ⟨(hw _ (List.mem_of_getElem? (i := 31) rfl)), rfl, rfl⟩) (hw _ (List.mem_of_getElem? (i := 6) rfl)) (ty := .byte) (by decide) rfl rfl (by simp) (Or.inl (by simp)) ?_
    intro T54 h55 w56 W57
    have hne1 : b27 ≠ x := by
      obtain ⟨cl, A1, -⟩ := f33
      exact Ne.symm (ne_arr (E.ext E29) (hw _ (List.mem_of_getElem? (i := 6) rfl)) A1)
    exact g_return W57 dS3_26 rfl ⟨rfl, (((own_keep_ext E29).wr w39 (Or.inl (by simp))).ext E46).wr w56 (Or.inl (by simp)), (((E.ext E29).wr w39).ext E46).wr w56, fun c hc => (nomatch hc), b27, k28, 0, 0, [], ((((FV.ext E29).same w39).ext E46).other w56 (Or.inr hsl)), (((FC.ext E29).other w39 (Or.inr (Ne.symm hsl))).ext E46).same w56, ((f33.other w39 hne1).ext E46).other w56 hne1, Or.inl ⟨rfl, rfl, rfl, fun c hc => (nomatch hc)⟩⟩
  · skip
    have hnz : ¬ Int32.ofNat n = 0 := Jvm.Free.XT.nz32 (by omega) hn0
    refine g_ifY W23 dS3_5 (pc' := 27) (feq hnz).2 (by decide) (by decide) ?_
    refine g_getS W23 dS3_27 (pc' := 30) rfl (hw _ (List.mem_of_getElem? (i := 18) rfl)) (SC.ext O) ?_
    intro T59 W58
    refine g_ifN W58 dS3_30 (pc' := 33) (feq hz).1 rfl ?_
    refine g_aloadN W58 dS3_33 (pc' := 34) rfl rfl rfl ?_
    refine g_iloadN W58 dS3_34 (pc' := 35) rfl rfl ?_
    refine g_iloadN W58 dS3_35 (pc' := 36) rfl rfl ?_
    refine g_static W58 dS3_36 (pc' := 39) rfl (hw _ (List.mem_of_getElem? (i := 19) rfl)) (hw _ (List.mem_of_getElem? (i := 20) rfl)) (hw _ (List.mem_of_getElem? (i := 21) rfl)) (hw _ (List.mem_of_getElem? (i := 22) rfl)) (by decide) (con_cmp3 l Z a0 hw hEL b kC cs dv n h0 O hn hcap K hb hp) pd___CII__B (argsL := [(.ref b), (.int (0 : Int32)), (.int (Int32.ofNat n))]) (st := []) rfl rfl rfl rfl (by decide) (w := 0) (Nat.le_of_eq rfl) (by decide) (by decide) (by decide) (by simp) (fun q hq => nomatch hq) ?_
    intro v60 T61 h62 S65 q63 W66
    have W64 := W66.sf (SF' := [x]) (fun _ hx => List.mem_append_right _ hx)
    obtain ⟨t, kb, cd, N2, vs, rfl, X, nt, A, CA⟩ := q63
    refine g_astore W64 dS3_39 (pc' := 41) rfl (ls' := #[.val (.ref x), .val (.ref b), .val (.int (0 : Int32)), .val (.int (Int32.ofNat n)), .val .null, .val (.ref t)]) rfl rfl ?_
    refine g_aloadN W64 dS3_41 (pc' := 42) rfl rfl rfl ?_
    refine g_aload W64 dS3_42 (pc' := 44) rfl rfl rfl ?_
    refine g_iloadN W64 dS3_44 (pc' := 45) rfl rfl ?_
    refine g_static W64 dS3_45 (pc' := 48) rfl (hw _ (List.mem_of_getElem? (i := 27) rfl)) (hw _ (List.mem_of_getElem? (i := 28) rfl)) (hw _ (List.mem_of_getElem? (i := 21) rfl)) (hw _ (List.mem_of_getElem? (i := 29) rfl)) (by decide) (con_cod l Z a0 hw hEL t kb cs cd N2 vs _ n h62 hn hcap A CA) pd___BI_B (argsL := [(.ref t), (.int (Int32.ofNat n))]) (st := [(.ref x)]) rfl rfl rfl rfl (by decide) (w := 1) (Nat.le_of_eq rfl) (by decide) (by decide) (by decide) (by simp) (fun q hq => nomatch hq) ?_
    intro v67 T68 h69 S72 q70 W73
    have W71 := W73.sf (SF' := [x]) (fun _ hx => List.mem_append_right _ hx)
    obtain ⟨rfl, hcd, rfl⟩ := q70
    have hnx : t ≠ x := Nat.ne_of_gt (Nat.lt_of_lt_of_le E.lt nt)
    refine g_putF W71 dS3_48 (pc' := 51) rfl (hw _ (List.mem_of_getElem? (i := 30) rfl)) (FC.ext X) (E.ext X) (Or.inr ⟨(hw _ (List.mem_of_getElem? (i := 31) rfl)), rfl, rfl⟩) (hw _ (List.mem_of_getElem? (i := 6) rfl)) (ty := .byte) (by decide) (by rcases hcd with rfl | rfl <;> rfl) (by rcases hcd with rfl | rfl <;> rfl) (by simp) (Or.inl (by simp)) ?_
    intro T74 h75 w76 W77
    refine g_aloadN W77 dS3_51 (pc' := 52) rfl rfl rfl ?_
    refine g_aload W77 dS3_52 (pc' := 54) rfl rfl rfl ?_
    refine g_putF W77 dS3_54 (pc' := 57) rfl (hw _ (List.mem_of_getElem? (i := 32) rfl)) ((FV.ext X).other w76 (Or.inr hsl)) ((E.ext X).wr w76) (Or.inr ⟨(hw _ (List.mem_of_getElem? (i := 33) rfl)), rfl, rfl⟩) (hw _ (List.mem_of_getElem? (i := 6) rfl)) (ty := .array .byte) (by decide) rfl rfl (by simp) (Or.inl (by simp)) ?_
    intro T78 h79 w80 W81
    exact g_return W81 dS3_57 rfl ⟨rfl, ((own_keep_ext X).wr w76 (Or.inl (by simp))).wr w80 (Or.inl (by simp)), ((E.ext X).wr w76).wr w80, hb, t, kb, cd, N2, vs, ((FV.ext X).other w76 (Or.inr hsl)).same w80, ((FC.ext X).same w76).other w80 (Or.inr (Ne.symm hsl)), (A.other w76 hnx).other w80 hnx, CA⟩
set_option maxRecDepth 65536 in
set_option maxHeartbeats 4000000 in
theorem con_new1 (l : Launch) (Z : State) (a0 : Array Value) (hw : ∀ d ∈ tables_1, d.before a0 Z = true) (hEL : EW Z a0 consts_1) (x b : Addr) (kC : ClassId) (cs : List Int32) (dv v0 c0 : Value) (z : Int32) (n : Nat) (h0 : Heap) (O : Ext Z.heap h0) (hp : ∀ c ∈ cs, ¬ (255 : Int32) < c) (hx : Z.heap.size ≤ x) (hn : cs.length = n) (hcap : n ≤ 16) (E : Exa Z h0 x "java/lang/String") (FV : Fld Z h0 x "java/lang/String" "value" "[B" v0) (FC : Fld Z h0 x "java/lang/String" "coder" "B" c0) (K : Arv Z h0 b kC .char (Int32.ofNat n) (cs.map Value.int) dv) (hb : ∀ c ∈ cs, ¬ c < 0 ∧ ¬ (65535 : Int32) < c) (SC : Sta Z Z.heap "java/lang/String" "COMPACT_STRINGS" "Z" (.int z)) (hz : ¬ z = 0) :
    Ocon l Z consts_1 (⟨"java/lang/String", "<init>", "([C)V"⟩ : MethodName) jdk_42_method_3_code 2 none [] ({ frames := 3, cells := 4, slots := 24, locals := 52 } : Room) #[(.ref x), (.ref b)] h0 [x] [(⟨x, RoadKit.slotOf Z "java/lang/String" "coder" "B"⟩ : Loc), (⟨x, RoadKit.slotOf Z "java/lang/String" "value" "[B"⟩ : Loc)] (fun v h _ => v = none ∧ Keep h0 h [x] ∧ OStr Z h x cs) := by
  refine own_con (a0 := a0) hEL (plainFor_of_name pn_java_lang_String) ?_
  intro p e s m below meth c T hs W0
  have ef : entryFrame m #[(.ref x), (.ref b)] 2 = mkF m 0 #[.val (.ref x), .val (.ref b)] [] := by first | rfl | (simp [entryFrame, mkF, argsToLocals, Value.category]; done)
  rw [ef]
  refine g_aloadN W0 dS4_0 (pc' := 1) rfl rfl rfl ?_
  refine g_aloadN W0 dS4_1 (pc' := 2) rfl rfl rfl ?_
  refine g_iconst W0 dS4_2 (pc' := 3) rfl (v := 0) rfl ?_
  refine g_aloadN W0 dS4_3 (pc' := 4) rfl rfl rfl ?_
  refine g_alen W0 dS4_4 (pc' := 5) rfl K ?_
  refine g_aconst_null W0 dS4_5 (pc' := 6) rfl ?_
  refine g_special W0 dS4_6 (pc' := 9) rfl rfl (hw _ (List.mem_of_getElem? (i := 11) rfl)) (hw _ (List.mem_of_getElem? (i := 12) rfl)) (hw _ (List.mem_of_getElem? (i := 7) rfl)) (hw _ (List.mem_of_getElem? (i := 14) rfl)) (by decide) (con_new4 l Z a0 hw hEL x b kC cs dv v0 c0 z n h0 O hp hx hn hcap E FV FC K hb SC hz) pd___CIILjava_lang_Void__V (argsL := [(.ref b), (.int (0 : Int32)), (.int (Int32.ofNat n)), .null]) (st := []) rfl rfl rfl rfl (by decide) (w := 0) (Nat.le_of_eq rfl) (by decide) (by decide) (by decide) (by simp) (fun q hq => Or.inl hq) ?_
  intro v82 T83 h84 S87 q85 W88
  have W86 := W88.sf (SF' := [x]) (fun _ hx => List.mem_append_right _ hx)
  obtain ⟨rfl, qK, qS⟩ := q85
  exact g_return W86 dS4_9 rfl ⟨rfl, qK, qS⟩
theorem dP0_0 : decode method_5_code 0 = .ok (.iload_n 2, 1) := by decide +kernel
theorem dP0_1 : decode method_5_code 1 = .ok (.sipush 255, 3) := by decide +kernel
theorem dP0_4 : decode method_5_code 4 = .ok (.iand, 1) := by decide +kernel
theorem dP0_5 : decode method_5_code 5 = .ok (.i2c, 1) := by decide +kernel
theorem dP0_6 : decode method_5_code 6 = .ok (.istore_n 3, 1) := by decide +kernel
theorem dP0_7 : decode method_5_code 7 = .ok (.iload_n 0, 1) := by decide +kernel
theorem dP0_8 : decode method_5_code 8 = .ok (.ifCond .ne 100, 3) := by decide +kernel
theorem dP0_11 : decode method_5_code 11 = .ok (.iload_n 1, 1) := by decide +kernel
theorem dP0_12 : decode method_5_code 12 = .ok (.iconst 1, 1) := by decide +kernel
theorem dP0_13 : decode method_5_code 13 = .ok (.if_icmp .ne 37, 3) := by decide +kernel
theorem dP0_16 : decode method_5_code 16 = .ok (.bipush 6, 2) := by decide +kernel
theorem dP0_18 : decode method_5_code 18 = .ok (.newarray .char, 2) := by decide +kernel
theorem dP0_20 : decode method_5_code 20 = .ok (.dup, 1) := by decide +kernel
theorem dP0_21 : decode method_5_code 21 = .ok (.iconst 0, 1) := by decide +kernel
theorem dP0_22 : decode method_5_code 22 = .ok (.bipush 116, 2) := by decide +kernel
theorem dP0_24 : decode method_5_code 24 = .ok (.castore, 1) := by decide +kernel
theorem dP0_25 : decode method_5_code 25 = .ok (.dup, 1) := by decide +kernel
theorem dP0_26 : decode method_5_code 26 = .ok (.iconst 1, 1) := by decide +kernel
theorem dP0_27 : decode method_5_code 27 = .ok (.bipush 105, 2) := by decide +kernel
theorem dP0_29 : decode method_5_code 29 = .ok (.castore, 1) := by decide +kernel
theorem dP0_30 : decode method_5_code 30 = .ok (.dup, 1) := by decide +kernel
theorem dP0_31 : decode method_5_code 31 = .ok (.iconst 2, 1) := by decide +kernel
theorem dP0_32 : decode method_5_code 32 = .ok (.bipush 116, 2) := by decide +kernel
theorem dP0_34 : decode method_5_code 34 = .ok (.castore, 1) := by decide +kernel
theorem dP0_35 : decode method_5_code 35 = .ok (.dup, 1) := by decide +kernel
theorem dP0_36 : decode method_5_code 36 = .ok (.iconst 3, 1) := by decide +kernel
theorem dP0_37 : decode method_5_code 37 = .ok (.bipush 108, 2) := by decide +kernel
theorem dP0_39 : decode method_5_code 39 = .ok (.castore, 1) := by decide +kernel
theorem dP0_40 : decode method_5_code 40 = .ok (.dup, 1) := by decide +kernel
theorem dP0_41 : decode method_5_code 41 = .ok (.iconst 4, 1) := by decide +kernel
theorem dP0_42 : decode method_5_code 42 = .ok (.bipush 101, 2) := by decide +kernel
theorem dP0_44 : decode method_5_code 44 = .ok (.castore, 1) := by decide +kernel
theorem dP0_45 : decode method_5_code 45 = .ok (.dup, 1) := by decide +kernel
theorem dP0_46 : decode method_5_code 46 = .ok (.iconst 5, 1) := by decide +kernel
theorem dP0_47 : decode method_5_code 47 = .ok (.iload_n 3, 1) := by decide +kernel
theorem dP0_48 : decode method_5_code 48 = .ok (.castore, 1) := by decide +kernel
theorem dP0_49 : decode method_5_code 49 = .ok (.areturn, 1) := by decide +kernel
theorem dP0_50 : decode method_5_code 50 = .ok (.iload_n 1, 1) := by decide +kernel
theorem dP0_51 : decode method_5_code 51 = .ok (.iconst 2, 1) := by decide +kernel
theorem dP0_52 : decode method_5_code 52 = .ok (.if_icmp .ne 27, 3) := by decide +kernel
theorem dP0_55 : decode method_5_code 55 = .ok (.iconst 4, 1) := by decide +kernel
theorem dP0_56 : decode method_5_code 56 = .ok (.newarray .char, 2) := by decide +kernel
theorem dP0_58 : decode method_5_code 58 = .ok (.dup, 1) := by decide +kernel
theorem dP0_59 : decode method_5_code 59 = .ok (.iconst 0, 1) := by decide +kernel
theorem dP0_60 : decode method_5_code 60 = .ok (.bipush 116, 2) := by decide +kernel
theorem dP0_62 : decode method_5_code 62 = .ok (.castore, 1) := by decide +kernel
theorem dP0_63 : decode method_5_code 63 = .ok (.dup, 1) := by decide +kernel
theorem dP0_64 : decode method_5_code 64 = .ok (.iconst 1, 1) := by decide +kernel
theorem dP0_65 : decode method_5_code 65 = .ok (.bipush 105, 2) := by decide +kernel
theorem dP0_67 : decode method_5_code 67 = .ok (.castore, 1) := by decide +kernel
theorem dP0_68 : decode method_5_code 68 = .ok (.dup, 1) := by decide +kernel
theorem dP0_69 : decode method_5_code 69 = .ok (.iconst 2, 1) := by decide +kernel
theorem dP0_70 : decode method_5_code 70 = .ok (.bipush 116, 2) := by decide +kernel
theorem dP0_72 : decode method_5_code 72 = .ok (.castore, 1) := by decide +kernel
theorem dP0_73 : decode method_5_code 73 = .ok (.dup, 1) := by decide +kernel
theorem dP0_74 : decode method_5_code 74 = .ok (.iconst 3, 1) := by decide +kernel
theorem dP0_75 : decode method_5_code 75 = .ok (.bipush 108, 2) := by decide +kernel
theorem dP0_77 : decode method_5_code 77 = .ok (.castore, 1) := by decide +kernel
theorem dP0_78 : decode method_5_code 78 = .ok (.areturn, 1) := by decide +kernel
theorem dP0_79 : decode method_5_code 79 = .ok (.iconst 5, 1) := by decide +kernel
theorem dP0_80 : decode method_5_code 80 = .ok (.newarray .char, 2) := by decide +kernel
theorem dP0_82 : decode method_5_code 82 = .ok (.dup, 1) := by decide +kernel
theorem dP0_83 : decode method_5_code 83 = .ok (.iconst 0, 1) := by decide +kernel
theorem dP0_84 : decode method_5_code 84 = .ok (.bipush 116, 2) := by decide +kernel
theorem dP0_86 : decode method_5_code 86 = .ok (.castore, 1) := by decide +kernel
theorem dP0_87 : decode method_5_code 87 = .ok (.dup, 1) := by decide +kernel
theorem dP0_88 : decode method_5_code 88 = .ok (.iconst 1, 1) := by decide +kernel
theorem dP0_89 : decode method_5_code 89 = .ok (.bipush 105, 2) := by decide +kernel
theorem dP0_91 : decode method_5_code 91 = .ok (.castore, 1) := by decide +kernel
theorem dP0_92 : decode method_5_code 92 = .ok (.dup, 1) := by decide +kernel
theorem dP0_93 : decode method_5_code 93 = .ok (.iconst 2, 1) := by decide +kernel
theorem dP0_94 : decode method_5_code 94 = .ok (.bipush 116, 2) := by decide +kernel
theorem dP0_96 : decode method_5_code 96 = .ok (.castore, 1) := by decide +kernel
theorem dP0_97 : decode method_5_code 97 = .ok (.dup, 1) := by decide +kernel
theorem dP0_98 : decode method_5_code 98 = .ok (.iconst 3, 1) := by decide +kernel
theorem dP0_99 : decode method_5_code 99 = .ok (.bipush 108, 2) := by decide +kernel
theorem dP0_101 : decode method_5_code 101 = .ok (.castore, 1) := by decide +kernel
theorem dP0_102 : decode method_5_code 102 = .ok (.dup, 1) := by decide +kernel
theorem dP0_103 : decode method_5_code 103 = .ok (.iconst 4, 1) := by decide +kernel
theorem dP0_104 : decode method_5_code 104 = .ok (.bipush 101, 2) := by decide +kernel
theorem dP0_106 : decode method_5_code 106 = .ok (.castore, 1) := by decide +kernel
theorem dP0_107 : decode method_5_code 107 = .ok (.areturn, 1) := by decide +kernel
theorem dP0_108 : decode method_5_code 108 = .ok (.iload_n 0, 1) := by decide +kernel
theorem dP0_109 : decode method_5_code 109 = .ok (.iconst 1, 1) := by decide +kernel
theorem dP0_110 : decode method_5_code 110 = .ok (.if_icmp .ne 243, 3) := by decide +kernel
theorem dP0_113 : decode method_5_code 113 = .ok (.iload_n 1, 1) := by decide +kernel
theorem dP0_114 : decode method_5_code 114 = .ok (.iconst 1, 1) := by decide +kernel
theorem dP0_115 : decode method_5_code 115 = .ok (.if_icmp .ne 85, 3) := by decide +kernel
theorem dP0_118 : decode method_5_code 118 = .ok (.bipush 14, 2) := by decide +kernel
theorem dP0_120 : decode method_5_code 120 = .ok (.newarray .char, 2) := by decide +kernel
theorem dP0_122 : decode method_5_code 122 = .ok (.dup, 1) := by decide +kernel
theorem dP0_123 : decode method_5_code 123 = .ok (.iconst 0, 1) := by decide +kernel
theorem dP0_124 : decode method_5_code 124 = .ok (.bipush 112, 2) := by decide +kernel
theorem dP0_126 : decode method_5_code 126 = .ok (.castore, 1) := by decide +kernel
theorem dP0_127 : decode method_5_code 127 = .ok (.dup, 1) := by decide +kernel
theorem dP0_128 : decode method_5_code 128 = .ok (.iconst 1, 1) := by decide +kernel
theorem dP0_129 : decode method_5_code 129 = .ok (.bipush 117, 2) := by decide +kernel
theorem dP0_131 : decode method_5_code 131 = .ok (.castore, 1) := by decide +kernel
theorem dP0_132 : decode method_5_code 132 = .ok (.dup, 1) := by decide +kernel
theorem dP0_133 : decode method_5_code 133 = .ok (.iconst 2, 1) := by decide +kernel
theorem dP0_134 : decode method_5_code 134 = .ok (.bipush 98, 2) := by decide +kernel
theorem dP0_136 : decode method_5_code 136 = .ok (.castore, 1) := by decide +kernel
theorem dP0_137 : decode method_5_code 137 = .ok (.dup, 1) := by decide +kernel
theorem dP0_138 : decode method_5_code 138 = .ok (.iconst 3, 1) := by decide +kernel
theorem dP0_139 : decode method_5_code 139 = .ok (.bipush 108, 2) := by decide +kernel
theorem dP0_141 : decode method_5_code 141 = .ok (.castore, 1) := by decide +kernel
theorem dP0_142 : decode method_5_code 142 = .ok (.dup, 1) := by decide +kernel
theorem dP0_143 : decode method_5_code 143 = .ok (.iconst 4, 1) := by decide +kernel
theorem dP0_144 : decode method_5_code 144 = .ok (.bipush 105, 2) := by decide +kernel
theorem dP0_146 : decode method_5_code 146 = .ok (.castore, 1) := by decide +kernel
theorem dP0_147 : decode method_5_code 147 = .ok (.dup, 1) := by decide +kernel
theorem dP0_148 : decode method_5_code 148 = .ok (.iconst 5, 1) := by decide +kernel
theorem dP0_149 : decode method_5_code 149 = .ok (.bipush 115, 2) := by decide +kernel
theorem dP0_151 : decode method_5_code 151 = .ok (.castore, 1) := by decide +kernel
theorem dP0_152 : decode method_5_code 152 = .ok (.dup, 1) := by decide +kernel
theorem dP0_153 : decode method_5_code 153 = .ok (.bipush 6, 2) := by decide +kernel
theorem dP0_155 : decode method_5_code 155 = .ok (.bipush 104, 2) := by decide +kernel
theorem dP0_157 : decode method_5_code 157 = .ok (.castore, 1) := by decide +kernel
theorem dP0_158 : decode method_5_code 158 = .ok (.dup, 1) := by decide +kernel
theorem dP0_159 : decode method_5_code 159 = .ok (.bipush 7, 2) := by decide +kernel
theorem dP0_161 : decode method_5_code 161 = .ok (.bipush 101, 2) := by decide +kernel
theorem dP0_163 : decode method_5_code 163 = .ok (.castore, 1) := by decide +kernel
theorem dP0_164 : decode method_5_code 164 = .ok (.dup, 1) := by decide +kernel
theorem dP0_165 : decode method_5_code 165 = .ok (.bipush 8, 2) := by decide +kernel
theorem dP0_167 : decode method_5_code 167 = .ok (.bipush 100, 2) := by decide +kernel
theorem dP0_169 : decode method_5_code 169 = .ok (.castore, 1) := by decide +kernel
theorem dP0_170 : decode method_5_code 170 = .ok (.dup, 1) := by decide +kernel
theorem dP0_171 : decode method_5_code 171 = .ok (.bipush 9, 2) := by decide +kernel
theorem dP0_173 : decode method_5_code 173 = .ok (.bipush 68, 2) := by decide +kernel
theorem dP0_175 : decode method_5_code 175 = .ok (.castore, 1) := by decide +kernel
theorem dP0_176 : decode method_5_code 176 = .ok (.dup, 1) := by decide +kernel
theorem dP0_177 : decode method_5_code 177 = .ok (.bipush 10, 2) := by decide +kernel
theorem dP0_179 : decode method_5_code 179 = .ok (.bipush 97, 2) := by decide +kernel
theorem dP0_181 : decode method_5_code 181 = .ok (.castore, 1) := by decide +kernel
theorem dP0_182 : decode method_5_code 182 = .ok (.dup, 1) := by decide +kernel
theorem dP0_183 : decode method_5_code 183 = .ok (.bipush 11, 2) := by decide +kernel
theorem dP0_185 : decode method_5_code 185 = .ok (.bipush 116, 2) := by decide +kernel
theorem dP0_187 : decode method_5_code 187 = .ok (.castore, 1) := by decide +kernel
theorem dP0_188 : decode method_5_code 188 = .ok (.dup, 1) := by decide +kernel
theorem dP0_189 : decode method_5_code 189 = .ok (.bipush 12, 2) := by decide +kernel
theorem dP0_191 : decode method_5_code 191 = .ok (.bipush 101, 2) := by decide +kernel
theorem dP0_193 : decode method_5_code 193 = .ok (.castore, 1) := by decide +kernel
theorem dP0_194 : decode method_5_code 194 = .ok (.dup, 1) := by decide +kernel
theorem dP0_195 : decode method_5_code 195 = .ok (.bipush 13, 2) := by decide +kernel
theorem dP0_197 : decode method_5_code 197 = .ok (.iload_n 3, 1) := by decide +kernel
theorem dP0_198 : decode method_5_code 198 = .ok (.castore, 1) := by decide +kernel
theorem dP0_199 : decode method_5_code 199 = .ok (.areturn, 1) := by decide +kernel
theorem dP0_200 : decode method_5_code 200 = .ok (.iload_n 1, 1) := by decide +kernel
theorem dP0_201 : decode method_5_code 201 = .ok (.iconst 2, 1) := by decide +kernel
theorem dP0_202 : decode method_5_code 202 = .ok (.if_icmp .ne 74, 3) := by decide +kernel
theorem dP0_205 : decode method_5_code 205 = .ok (.bipush 12, 2) := by decide +kernel
theorem dP0_207 : decode method_5_code 207 = .ok (.newarray .char, 2) := by decide +kernel
theorem dP0_209 : decode method_5_code 209 = .ok (.dup, 1) := by decide +kernel
theorem dP0_210 : decode method_5_code 210 = .ok (.iconst 0, 1) := by decide +kernel
theorem dP0_211 : decode method_5_code 211 = .ok (.bipush 112, 2) := by decide +kernel
theorem dP0_213 : decode method_5_code 213 = .ok (.castore, 1) := by decide +kernel
theorem dP0_214 : decode method_5_code 214 = .ok (.dup, 1) := by decide +kernel
theorem dP0_215 : decode method_5_code 215 = .ok (.iconst 1, 1) := by decide +kernel
theorem dP0_216 : decode method_5_code 216 = .ok (.bipush 117, 2) := by decide +kernel
theorem dP0_218 : decode method_5_code 218 = .ok (.castore, 1) := by decide +kernel
theorem dP0_219 : decode method_5_code 219 = .ok (.dup, 1) := by decide +kernel
theorem dP0_220 : decode method_5_code 220 = .ok (.iconst 2, 1) := by decide +kernel
theorem dP0_221 : decode method_5_code 221 = .ok (.bipush 98, 2) := by decide +kernel
theorem dP0_223 : decode method_5_code 223 = .ok (.castore, 1) := by decide +kernel
theorem dP0_224 : decode method_5_code 224 = .ok (.dup, 1) := by decide +kernel
theorem dP0_225 : decode method_5_code 225 = .ok (.iconst 3, 1) := by decide +kernel
theorem dP0_226 : decode method_5_code 226 = .ok (.bipush 108, 2) := by decide +kernel
theorem dP0_228 : decode method_5_code 228 = .ok (.castore, 1) := by decide +kernel
theorem dP0_229 : decode method_5_code 229 = .ok (.dup, 1) := by decide +kernel
theorem dP0_230 : decode method_5_code 230 = .ok (.iconst 4, 1) := by decide +kernel
theorem dP0_231 : decode method_5_code 231 = .ok (.bipush 105, 2) := by decide +kernel
theorem dP0_233 : decode method_5_code 233 = .ok (.castore, 1) := by decide +kernel
theorem dP0_234 : decode method_5_code 234 = .ok (.dup, 1) := by decide +kernel
theorem dP0_235 : decode method_5_code 235 = .ok (.iconst 5, 1) := by decide +kernel
theorem dP0_236 : decode method_5_code 236 = .ok (.bipush 115, 2) := by decide +kernel
theorem dP0_238 : decode method_5_code 238 = .ok (.castore, 1) := by decide +kernel
theorem dP0_239 : decode method_5_code 239 = .ok (.dup, 1) := by decide +kernel
theorem dP0_240 : decode method_5_code 240 = .ok (.bipush 6, 2) := by decide +kernel
theorem dP0_242 : decode method_5_code 242 = .ok (.bipush 104, 2) := by decide +kernel
theorem dP0_244 : decode method_5_code 244 = .ok (.castore, 1) := by decide +kernel
theorem dP0_245 : decode method_5_code 245 = .ok (.dup, 1) := by decide +kernel
theorem dP0_246 : decode method_5_code 246 = .ok (.bipush 7, 2) := by decide +kernel
theorem dP0_248 : decode method_5_code 248 = .ok (.bipush 101, 2) := by decide +kernel
theorem dP0_250 : decode method_5_code 250 = .ok (.castore, 1) := by decide +kernel
theorem dP0_251 : decode method_5_code 251 = .ok (.dup, 1) := by decide +kernel
theorem dP0_252 : decode method_5_code 252 = .ok (.bipush 8, 2) := by decide +kernel
theorem dP0_254 : decode method_5_code 254 = .ok (.bipush 100, 2) := by decide +kernel
theorem dP0_256 : decode method_5_code 256 = .ok (.castore, 1) := by decide +kernel
theorem dP0_257 : decode method_5_code 257 = .ok (.dup, 1) := by decide +kernel
theorem dP0_258 : decode method_5_code 258 = .ok (.bipush 9, 2) := by decide +kernel
theorem dP0_260 : decode method_5_code 260 = .ok (.bipush 68, 2) := by decide +kernel
theorem dP0_262 : decode method_5_code 262 = .ok (.castore, 1) := by decide +kernel
theorem dP0_263 : decode method_5_code 263 = .ok (.dup, 1) := by decide +kernel
theorem dP0_264 : decode method_5_code 264 = .ok (.bipush 10, 2) := by decide +kernel
theorem dP0_266 : decode method_5_code 266 = .ok (.bipush 97, 2) := by decide +kernel
theorem dP0_268 : decode method_5_code 268 = .ok (.castore, 1) := by decide +kernel
theorem dP0_269 : decode method_5_code 269 = .ok (.dup, 1) := by decide +kernel
theorem dP0_270 : decode method_5_code 270 = .ok (.bipush 11, 2) := by decide +kernel
theorem dP0_272 : decode method_5_code 272 = .ok (.bipush 116, 2) := by decide +kernel
theorem dP0_274 : decode method_5_code 274 = .ok (.castore, 1) := by decide +kernel
theorem dP0_275 : decode method_5_code 275 = .ok (.areturn, 1) := by decide +kernel
theorem dP0_276 : decode method_5_code 276 = .ok (.bipush 13, 2) := by decide +kernel
theorem dP0_278 : decode method_5_code 278 = .ok (.newarray .char, 2) := by decide +kernel
theorem dP0_280 : decode method_5_code 280 = .ok (.dup, 1) := by decide +kernel
theorem dP0_281 : decode method_5_code 281 = .ok (.iconst 0, 1) := by decide +kernel
theorem dP0_282 : decode method_5_code 282 = .ok (.bipush 112, 2) := by decide +kernel
theorem dP0_284 : decode method_5_code 284 = .ok (.castore, 1) := by decide +kernel
theorem dP0_285 : decode method_5_code 285 = .ok (.dup, 1) := by decide +kernel
theorem dP0_286 : decode method_5_code 286 = .ok (.iconst 1, 1) := by decide +kernel
theorem dP0_287 : decode method_5_code 287 = .ok (.bipush 117, 2) := by decide +kernel
theorem dP0_289 : decode method_5_code 289 = .ok (.castore, 1) := by decide +kernel
theorem dP0_290 : decode method_5_code 290 = .ok (.dup, 1) := by decide +kernel
theorem dP0_291 : decode method_5_code 291 = .ok (.iconst 2, 1) := by decide +kernel
theorem dP0_292 : decode method_5_code 292 = .ok (.bipush 98, 2) := by decide +kernel
theorem dP0_294 : decode method_5_code 294 = .ok (.castore, 1) := by decide +kernel
theorem dP0_295 : decode method_5_code 295 = .ok (.dup, 1) := by decide +kernel
theorem dP0_296 : decode method_5_code 296 = .ok (.iconst 3, 1) := by decide +kernel
theorem dP0_297 : decode method_5_code 297 = .ok (.bipush 108, 2) := by decide +kernel
theorem dP0_299 : decode method_5_code 299 = .ok (.castore, 1) := by decide +kernel
theorem dP0_300 : decode method_5_code 300 = .ok (.dup, 1) := by decide +kernel
theorem dP0_301 : decode method_5_code 301 = .ok (.iconst 4, 1) := by decide +kernel
theorem dP0_302 : decode method_5_code 302 = .ok (.bipush 105, 2) := by decide +kernel
theorem dP0_304 : decode method_5_code 304 = .ok (.castore, 1) := by decide +kernel
theorem dP0_305 : decode method_5_code 305 = .ok (.dup, 1) := by decide +kernel
theorem dP0_306 : decode method_5_code 306 = .ok (.iconst 5, 1) := by decide +kernel
theorem dP0_307 : decode method_5_code 307 = .ok (.bipush 115, 2) := by decide +kernel
theorem dP0_309 : decode method_5_code 309 = .ok (.castore, 1) := by decide +kernel
theorem dP0_310 : decode method_5_code 310 = .ok (.dup, 1) := by decide +kernel
theorem dP0_311 : decode method_5_code 311 = .ok (.bipush 6, 2) := by decide +kernel
theorem dP0_313 : decode method_5_code 313 = .ok (.bipush 104, 2) := by decide +kernel
theorem dP0_315 : decode method_5_code 315 = .ok (.castore, 1) := by decide +kernel
theorem dP0_316 : decode method_5_code 316 = .ok (.dup, 1) := by decide +kernel
theorem dP0_317 : decode method_5_code 317 = .ok (.bipush 7, 2) := by decide +kernel
theorem dP0_319 : decode method_5_code 319 = .ok (.bipush 101, 2) := by decide +kernel
theorem dP0_321 : decode method_5_code 321 = .ok (.castore, 1) := by decide +kernel
theorem dP0_322 : decode method_5_code 322 = .ok (.dup, 1) := by decide +kernel
theorem dP0_323 : decode method_5_code 323 = .ok (.bipush 8, 2) := by decide +kernel
theorem dP0_325 : decode method_5_code 325 = .ok (.bipush 100, 2) := by decide +kernel
theorem dP0_327 : decode method_5_code 327 = .ok (.castore, 1) := by decide +kernel
theorem dP0_328 : decode method_5_code 328 = .ok (.dup, 1) := by decide +kernel
theorem dP0_329 : decode method_5_code 329 = .ok (.bipush 9, 2) := by decide +kernel
theorem dP0_331 : decode method_5_code 331 = .ok (.bipush 68, 2) := by decide +kernel
theorem dP0_333 : decode method_5_code 333 = .ok (.castore, 1) := by decide +kernel
theorem dP0_334 : decode method_5_code 334 = .ok (.dup, 1) := by decide +kernel
theorem dP0_335 : decode method_5_code 335 = .ok (.bipush 10, 2) := by decide +kernel
theorem dP0_337 : decode method_5_code 337 = .ok (.bipush 97, 2) := by decide +kernel
theorem dP0_339 : decode method_5_code 339 = .ok (.castore, 1) := by decide +kernel
theorem dP0_340 : decode method_5_code 340 = .ok (.dup, 1) := by decide +kernel
theorem dP0_341 : decode method_5_code 341 = .ok (.bipush 11, 2) := by decide +kernel
theorem dP0_343 : decode method_5_code 343 = .ok (.bipush 116, 2) := by decide +kernel
theorem dP0_345 : decode method_5_code 345 = .ok (.castore, 1) := by decide +kernel
theorem dP0_346 : decode method_5_code 346 = .ok (.dup, 1) := by decide +kernel
theorem dP0_347 : decode method_5_code 347 = .ok (.bipush 12, 2) := by decide +kernel
theorem dP0_349 : decode method_5_code 349 = .ok (.bipush 101, 2) := by decide +kernel
theorem dP0_351 : decode method_5_code 351 = .ok (.castore, 1) := by decide +kernel
theorem dP0_352 : decode method_5_code 352 = .ok (.areturn, 1) := by decide +kernel
theorem dP0_353 : decode method_5_code 353 = .ok (.iload_n 1, 1) := by decide +kernel
theorem dP0_354 : decode method_5_code 354 = .ok (.iconst 1, 1) := by decide +kernel
theorem dP0_355 : decode method_5_code 355 = .ok (.if_icmp .ne 97, 3) := by decide +kernel
theorem dP0_358 : decode method_5_code 358 = .ok (.bipush 16, 2) := by decide +kernel
theorem dP0_360 : decode method_5_code 360 = .ok (.newarray .char, 2) := by decide +kernel
theorem dP0_362 : decode method_5_code 362 = .ok (.dup, 1) := by decide +kernel
theorem dP0_363 : decode method_5_code 363 = .ok (.iconst 0, 1) := by decide +kernel
theorem dP0_364 : decode method_5_code 364 = .ok (.bipush 97, 2) := by decide +kernel
theorem dP0_366 : decode method_5_code 366 = .ok (.castore, 1) := by decide +kernel
theorem dP0_367 : decode method_5_code 367 = .ok (.dup, 1) := by decide +kernel
theorem dP0_368 : decode method_5_code 368 = .ok (.iconst 1, 1) := by decide +kernel
theorem dP0_369 : decode method_5_code 369 = .ok (.bipush 118, 2) := by decide +kernel
theorem dP0_371 : decode method_5_code 371 = .ok (.castore, 1) := by decide +kernel
theorem dP0_372 : decode method_5_code 372 = .ok (.dup, 1) := by decide +kernel
theorem dP0_373 : decode method_5_code 373 = .ok (.iconst 2, 1) := by decide +kernel
theorem dP0_374 : decode method_5_code 374 = .ok (.bipush 97, 2) := by decide +kernel
theorem dP0_376 : decode method_5_code 376 = .ok (.castore, 1) := by decide +kernel
theorem dP0_377 : decode method_5_code 377 = .ok (.dup, 1) := by decide +kernel
theorem dP0_378 : decode method_5_code 378 = .ok (.iconst 3, 1) := by decide +kernel
theorem dP0_379 : decode method_5_code 379 = .ok (.bipush 105, 2) := by decide +kernel
theorem dP0_381 : decode method_5_code 381 = .ok (.castore, 1) := by decide +kernel
theorem dP0_382 : decode method_5_code 382 = .ok (.dup, 1) := by decide +kernel
theorem dP0_383 : decode method_5_code 383 = .ok (.iconst 4, 1) := by decide +kernel
theorem dP0_384 : decode method_5_code 384 = .ok (.bipush 108, 2) := by decide +kernel
theorem dP0_386 : decode method_5_code 386 = .ok (.castore, 1) := by decide +kernel
theorem dP0_387 : decode method_5_code 387 = .ok (.dup, 1) := by decide +kernel
theorem dP0_388 : decode method_5_code 388 = .ok (.iconst 5, 1) := by decide +kernel
theorem dP0_389 : decode method_5_code 389 = .ok (.bipush 97, 2) := by decide +kernel
theorem dP0_391 : decode method_5_code 391 = .ok (.castore, 1) := by decide +kernel
theorem dP0_392 : decode method_5_code 392 = .ok (.dup, 1) := by decide +kernel
theorem dP0_393 : decode method_5_code 393 = .ok (.bipush 6, 2) := by decide +kernel
theorem dP0_395 : decode method_5_code 395 = .ok (.bipush 98, 2) := by decide +kernel
theorem dP0_397 : decode method_5_code 397 = .ok (.castore, 1) := by decide +kernel
theorem dP0_398 : decode method_5_code 398 = .ok (.dup, 1) := by decide +kernel
theorem dP0_399 : decode method_5_code 399 = .ok (.bipush 7, 2) := by decide +kernel
theorem dP0_401 : decode method_5_code 401 = .ok (.bipush 108, 2) := by decide +kernel
theorem dP0_403 : decode method_5_code 403 = .ok (.castore, 1) := by decide +kernel
theorem dP0_404 : decode method_5_code 404 = .ok (.dup, 1) := by decide +kernel
theorem dP0_405 : decode method_5_code 405 = .ok (.bipush 8, 2) := by decide +kernel
theorem dP0_407 : decode method_5_code 407 = .ok (.bipush 101, 2) := by decide +kernel
theorem dP0_409 : decode method_5_code 409 = .ok (.castore, 1) := by decide +kernel
theorem dP0_410 : decode method_5_code 410 = .ok (.dup, 1) := by decide +kernel
theorem dP0_411 : decode method_5_code 411 = .ok (.bipush 9, 2) := by decide +kernel
theorem dP0_413 : decode method_5_code 413 = .ok (.bipush 67, 2) := by decide +kernel
theorem dP0_415 : decode method_5_code 415 = .ok (.castore, 1) := by decide +kernel
theorem dP0_416 : decode method_5_code 416 = .ok (.dup, 1) := by decide +kernel
theorem dP0_417 : decode method_5_code 417 = .ok (.bipush 10, 2) := by decide +kernel
theorem dP0_419 : decode method_5_code 419 = .ok (.bipush 111, 2) := by decide +kernel
theorem dP0_421 : decode method_5_code 421 = .ok (.castore, 1) := by decide +kernel
theorem dP0_422 : decode method_5_code 422 = .ok (.dup, 1) := by decide +kernel
theorem dP0_423 : decode method_5_code 423 = .ok (.bipush 11, 2) := by decide +kernel
theorem dP0_425 : decode method_5_code 425 = .ok (.bipush 112, 2) := by decide +kernel
theorem dP0_427 : decode method_5_code 427 = .ok (.castore, 1) := by decide +kernel
theorem dP0_428 : decode method_5_code 428 = .ok (.dup, 1) := by decide +kernel
theorem dP0_429 : decode method_5_code 429 = .ok (.bipush 12, 2) := by decide +kernel
theorem dP0_431 : decode method_5_code 431 = .ok (.bipush 105, 2) := by decide +kernel
theorem dP0_433 : decode method_5_code 433 = .ok (.castore, 1) := by decide +kernel
theorem dP0_434 : decode method_5_code 434 = .ok (.dup, 1) := by decide +kernel
theorem dP0_435 : decode method_5_code 435 = .ok (.bipush 13, 2) := by decide +kernel
theorem dP0_437 : decode method_5_code 437 = .ok (.bipush 101, 2) := by decide +kernel
theorem dP0_439 : decode method_5_code 439 = .ok (.castore, 1) := by decide +kernel
theorem dP0_440 : decode method_5_code 440 = .ok (.dup, 1) := by decide +kernel
theorem dP0_441 : decode method_5_code 441 = .ok (.bipush 14, 2) := by decide +kernel
theorem dP0_443 : decode method_5_code 443 = .ok (.bipush 115, 2) := by decide +kernel
theorem dP0_445 : decode method_5_code 445 = .ok (.castore, 1) := by decide +kernel
theorem dP0_446 : decode method_5_code 446 = .ok (.dup, 1) := by decide +kernel
theorem dP0_447 : decode method_5_code 447 = .ok (.bipush 15, 2) := by decide +kernel
theorem dP0_449 : decode method_5_code 449 = .ok (.iload_n 3, 1) := by decide +kernel
theorem dP0_450 : decode method_5_code 450 = .ok (.castore, 1) := by decide +kernel
theorem dP0_451 : decode method_5_code 451 = .ok (.areturn, 1) := by decide +kernel
theorem dP0_452 : decode method_5_code 452 = .ok (.iload_n 1, 1) := by decide +kernel
theorem dP0_453 : decode method_5_code 453 = .ok (.iconst 2, 1) := by decide +kernel
theorem dP0_454 : decode method_5_code 454 = .ok (.if_icmp .ne 86, 3) := by decide +kernel
theorem dP0_457 : decode method_5_code 457 = .ok (.bipush 14, 2) := by decide +kernel
theorem dP0_459 : decode method_5_code 459 = .ok (.newarray .char, 2) := by decide +kernel
theorem dP0_461 : decode method_5_code 461 = .ok (.dup, 1) := by decide +kernel
theorem dP0_462 : decode method_5_code 462 = .ok (.iconst 0, 1) := by decide +kernel
theorem dP0_463 : decode method_5_code 463 = .ok (.bipush 97, 2) := by decide +kernel
theorem dP0_465 : decode method_5_code 465 = .ok (.castore, 1) := by decide +kernel
theorem dP0_466 : decode method_5_code 466 = .ok (.dup, 1) := by decide +kernel
theorem dP0_467 : decode method_5_code 467 = .ok (.iconst 1, 1) := by decide +kernel
theorem dP0_468 : decode method_5_code 468 = .ok (.bipush 118, 2) := by decide +kernel
theorem dP0_470 : decode method_5_code 470 = .ok (.castore, 1) := by decide +kernel
theorem dP0_471 : decode method_5_code 471 = .ok (.dup, 1) := by decide +kernel
theorem dP0_472 : decode method_5_code 472 = .ok (.iconst 2, 1) := by decide +kernel
theorem dP0_473 : decode method_5_code 473 = .ok (.bipush 97, 2) := by decide +kernel
theorem dP0_475 : decode method_5_code 475 = .ok (.castore, 1) := by decide +kernel
theorem dP0_476 : decode method_5_code 476 = .ok (.dup, 1) := by decide +kernel
theorem dP0_477 : decode method_5_code 477 = .ok (.iconst 3, 1) := by decide +kernel
theorem dP0_478 : decode method_5_code 478 = .ok (.bipush 105, 2) := by decide +kernel
theorem dP0_480 : decode method_5_code 480 = .ok (.castore, 1) := by decide +kernel
theorem dP0_481 : decode method_5_code 481 = .ok (.dup, 1) := by decide +kernel
theorem dP0_482 : decode method_5_code 482 = .ok (.iconst 4, 1) := by decide +kernel
theorem dP0_483 : decode method_5_code 483 = .ok (.bipush 108, 2) := by decide +kernel
theorem dP0_485 : decode method_5_code 485 = .ok (.castore, 1) := by decide +kernel
theorem dP0_486 : decode method_5_code 486 = .ok (.dup, 1) := by decide +kernel
theorem dP0_487 : decode method_5_code 487 = .ok (.iconst 5, 1) := by decide +kernel
theorem dP0_488 : decode method_5_code 488 = .ok (.bipush 97, 2) := by decide +kernel
theorem dP0_490 : decode method_5_code 490 = .ok (.castore, 1) := by decide +kernel
theorem dP0_491 : decode method_5_code 491 = .ok (.dup, 1) := by decide +kernel
theorem dP0_492 : decode method_5_code 492 = .ok (.bipush 6, 2) := by decide +kernel
theorem dP0_494 : decode method_5_code 494 = .ok (.bipush 98, 2) := by decide +kernel
theorem dP0_496 : decode method_5_code 496 = .ok (.castore, 1) := by decide +kernel
theorem dP0_497 : decode method_5_code 497 = .ok (.dup, 1) := by decide +kernel
theorem dP0_498 : decode method_5_code 498 = .ok (.bipush 7, 2) := by decide +kernel
theorem dP0_500 : decode method_5_code 500 = .ok (.bipush 108, 2) := by decide +kernel
theorem dP0_502 : decode method_5_code 502 = .ok (.castore, 1) := by decide +kernel
theorem dP0_503 : decode method_5_code 503 = .ok (.dup, 1) := by decide +kernel
theorem dP0_504 : decode method_5_code 504 = .ok (.bipush 8, 2) := by decide +kernel
theorem dP0_506 : decode method_5_code 506 = .ok (.bipush 101, 2) := by decide +kernel
theorem dP0_508 : decode method_5_code 508 = .ok (.castore, 1) := by decide +kernel
theorem dP0_509 : decode method_5_code 509 = .ok (.dup, 1) := by decide +kernel
theorem dP0_510 : decode method_5_code 510 = .ok (.bipush 9, 2) := by decide +kernel
theorem dP0_512 : decode method_5_code 512 = .ok (.bipush 67, 2) := by decide +kernel
theorem dP0_514 : decode method_5_code 514 = .ok (.castore, 1) := by decide +kernel
theorem dP0_515 : decode method_5_code 515 = .ok (.dup, 1) := by decide +kernel
theorem dP0_516 : decode method_5_code 516 = .ok (.bipush 10, 2) := by decide +kernel
theorem dP0_518 : decode method_5_code 518 = .ok (.bipush 111, 2) := by decide +kernel
theorem dP0_520 : decode method_5_code 520 = .ok (.castore, 1) := by decide +kernel
theorem dP0_521 : decode method_5_code 521 = .ok (.dup, 1) := by decide +kernel
theorem dP0_522 : decode method_5_code 522 = .ok (.bipush 11, 2) := by decide +kernel
theorem dP0_524 : decode method_5_code 524 = .ok (.bipush 112, 2) := by decide +kernel
theorem dP0_526 : decode method_5_code 526 = .ok (.castore, 1) := by decide +kernel
theorem dP0_527 : decode method_5_code 527 = .ok (.dup, 1) := by decide +kernel
theorem dP0_528 : decode method_5_code 528 = .ok (.bipush 12, 2) := by decide +kernel
theorem dP0_530 : decode method_5_code 530 = .ok (.bipush 105, 2) := by decide +kernel
theorem dP0_532 : decode method_5_code 532 = .ok (.castore, 1) := by decide +kernel
theorem dP0_533 : decode method_5_code 533 = .ok (.dup, 1) := by decide +kernel
theorem dP0_534 : decode method_5_code 534 = .ok (.bipush 13, 2) := by decide +kernel
theorem dP0_536 : decode method_5_code 536 = .ok (.bipush 101, 2) := by decide +kernel
theorem dP0_538 : decode method_5_code 538 = .ok (.castore, 1) := by decide +kernel
theorem dP0_539 : decode method_5_code 539 = .ok (.areturn, 1) := by decide +kernel
theorem dP0_540 : decode method_5_code 540 = .ok (.bipush 15, 2) := by decide +kernel
theorem dP0_542 : decode method_5_code 542 = .ok (.newarray .char, 2) := by decide +kernel
theorem dP0_544 : decode method_5_code 544 = .ok (.dup, 1) := by decide +kernel
theorem dP0_545 : decode method_5_code 545 = .ok (.iconst 0, 1) := by decide +kernel
theorem dP0_546 : decode method_5_code 546 = .ok (.bipush 97, 2) := by decide +kernel
theorem dP0_548 : decode method_5_code 548 = .ok (.castore, 1) := by decide +kernel
theorem dP0_549 : decode method_5_code 549 = .ok (.dup, 1) := by decide +kernel
theorem dP0_550 : decode method_5_code 550 = .ok (.iconst 1, 1) := by decide +kernel
theorem dP0_551 : decode method_5_code 551 = .ok (.bipush 118, 2) := by decide +kernel
theorem dP0_553 : decode method_5_code 553 = .ok (.castore, 1) := by decide +kernel
theorem dP0_554 : decode method_5_code 554 = .ok (.dup, 1) := by decide +kernel
theorem dP0_555 : decode method_5_code 555 = .ok (.iconst 2, 1) := by decide +kernel
theorem dP0_556 : decode method_5_code 556 = .ok (.bipush 97, 2) := by decide +kernel
theorem dP0_558 : decode method_5_code 558 = .ok (.castore, 1) := by decide +kernel
theorem dP0_559 : decode method_5_code 559 = .ok (.dup, 1) := by decide +kernel
theorem dP0_560 : decode method_5_code 560 = .ok (.iconst 3, 1) := by decide +kernel
theorem dP0_561 : decode method_5_code 561 = .ok (.bipush 105, 2) := by decide +kernel
theorem dP0_563 : decode method_5_code 563 = .ok (.castore, 1) := by decide +kernel
theorem dP0_564 : decode method_5_code 564 = .ok (.dup, 1) := by decide +kernel
theorem dP0_565 : decode method_5_code 565 = .ok (.iconst 4, 1) := by decide +kernel
theorem dP0_566 : decode method_5_code 566 = .ok (.bipush 108, 2) := by decide +kernel
theorem dP0_568 : decode method_5_code 568 = .ok (.castore, 1) := by decide +kernel
theorem dP0_569 : decode method_5_code 569 = .ok (.dup, 1) := by decide +kernel
theorem dP0_570 : decode method_5_code 570 = .ok (.iconst 5, 1) := by decide +kernel
theorem dP0_571 : decode method_5_code 571 = .ok (.bipush 97, 2) := by decide +kernel
theorem dP0_573 : decode method_5_code 573 = .ok (.castore, 1) := by decide +kernel
theorem dP0_574 : decode method_5_code 574 = .ok (.dup, 1) := by decide +kernel
theorem dP0_575 : decode method_5_code 575 = .ok (.bipush 6, 2) := by decide +kernel
theorem dP0_577 : decode method_5_code 577 = .ok (.bipush 98, 2) := by decide +kernel
theorem dP0_579 : decode method_5_code 579 = .ok (.castore, 1) := by decide +kernel
theorem dP0_580 : decode method_5_code 580 = .ok (.dup, 1) := by decide +kernel
theorem dP0_581 : decode method_5_code 581 = .ok (.bipush 7, 2) := by decide +kernel
theorem dP0_583 : decode method_5_code 583 = .ok (.bipush 108, 2) := by decide +kernel
theorem dP0_585 : decode method_5_code 585 = .ok (.castore, 1) := by decide +kernel
theorem dP0_586 : decode method_5_code 586 = .ok (.dup, 1) := by decide +kernel
theorem dP0_587 : decode method_5_code 587 = .ok (.bipush 8, 2) := by decide +kernel
theorem dP0_589 : decode method_5_code 589 = .ok (.bipush 101, 2) := by decide +kernel
theorem dP0_591 : decode method_5_code 591 = .ok (.castore, 1) := by decide +kernel
theorem dP0_592 : decode method_5_code 592 = .ok (.dup, 1) := by decide +kernel
theorem dP0_593 : decode method_5_code 593 = .ok (.bipush 9, 2) := by decide +kernel
theorem dP0_595 : decode method_5_code 595 = .ok (.bipush 67, 2) := by decide +kernel
theorem dP0_597 : decode method_5_code 597 = .ok (.castore, 1) := by decide +kernel
theorem dP0_598 : decode method_5_code 598 = .ok (.dup, 1) := by decide +kernel
theorem dP0_599 : decode method_5_code 599 = .ok (.bipush 10, 2) := by decide +kernel
theorem dP0_601 : decode method_5_code 601 = .ok (.bipush 111, 2) := by decide +kernel
theorem dP0_603 : decode method_5_code 603 = .ok (.castore, 1) := by decide +kernel
theorem dP0_604 : decode method_5_code 604 = .ok (.dup, 1) := by decide +kernel
theorem dP0_605 : decode method_5_code 605 = .ok (.bipush 11, 2) := by decide +kernel
theorem dP0_607 : decode method_5_code 607 = .ok (.bipush 112, 2) := by decide +kernel
theorem dP0_609 : decode method_5_code 609 = .ok (.castore, 1) := by decide +kernel
theorem dP0_610 : decode method_5_code 610 = .ok (.dup, 1) := by decide +kernel
theorem dP0_611 : decode method_5_code 611 = .ok (.bipush 12, 2) := by decide +kernel
theorem dP0_613 : decode method_5_code 613 = .ok (.bipush 105, 2) := by decide +kernel
theorem dP0_615 : decode method_5_code 615 = .ok (.castore, 1) := by decide +kernel
theorem dP0_616 : decode method_5_code 616 = .ok (.dup, 1) := by decide +kernel
theorem dP0_617 : decode method_5_code 617 = .ok (.bipush 13, 2) := by decide +kernel
theorem dP0_619 : decode method_5_code 619 = .ok (.bipush 101, 2) := by decide +kernel
theorem dP0_621 : decode method_5_code 621 = .ok (.castore, 1) := by decide +kernel
theorem dP0_622 : decode method_5_code 622 = .ok (.dup, 1) := by decide +kernel
theorem dP0_623 : decode method_5_code 623 = .ok (.bipush 14, 2) := by decide +kernel
theorem dP0_625 : decode method_5_code 625 = .ok (.bipush 115, 2) := by decide +kernel
theorem dP0_627 : decode method_5_code 627 = .ok (.castore, 1) := by decide +kernel
theorem dP0_628 : decode method_5_code 628 = .ok (.areturn, 1) := by decide +kernel
theorem dP1_0 : decode method_4_code 0 = .ok (.iload_n 1, 1) := by decide +kernel
theorem dP1_1 : decode method_4_code 1 = .ok (.sipush 255, 3) := by decide +kernel
theorem dP1_4 : decode method_4_code 4 = .ok (.iand, 1) := by decide +kernel
theorem dP1_5 : decode method_4_code 5 = .ok (.i2c, 1) := by decide +kernel
theorem dP1_6 : decode method_4_code 6 = .ok (.istore 4, 2) := by decide +kernel
theorem dP1_8 : decode method_4_code 8 = .ok (.iload_n 2, 1) := by decide +kernel
theorem dP1_9 : decode method_4_code 9 = .ok (.sipush 255, 3) := by decide +kernel
theorem dP1_12 : decode method_4_code 12 = .ok (.iand, 1) := by decide +kernel
theorem dP1_13 : decode method_4_code 13 = .ok (.i2c, 1) := by decide +kernel
theorem dP1_14 : decode method_4_code 14 = .ok (.istore 5, 2) := by decide +kernel
theorem dP1_16 : decode method_4_code 16 = .ok (.iload_n 3, 1) := by decide +kernel
theorem dP1_17 : decode method_4_code 17 = .ok (.sipush 255, 3) := by decide +kernel
theorem dP1_20 : decode method_4_code 20 = .ok (.iand, 1) := by decide +kernel
theorem dP1_21 : decode method_4_code 21 = .ok (.i2c, 1) := by decide +kernel
theorem dP1_22 : decode method_4_code 22 = .ok (.istore 6, 2) := by decide +kernel
theorem dP1_24 : decode method_4_code 24 = .ok (.iload_n 0, 1) := by decide +kernel
theorem dP1_25 : decode method_4_code 25 = .ok (.ifCond .ne 7, 3) := by decide +kernel
theorem dP1_28 : decode method_4_code 28 = .ok (.iconst 0, 1) := by decide +kernel
theorem dP1_29 : decode method_4_code 29 = .ok (.newarray .char, 2) := by decide +kernel
theorem dP1_31 : decode method_4_code 31 = .ok (.areturn, 1) := by decide +kernel
theorem dP1_32 : decode method_4_code 32 = .ok (.iload_n 0, 1) := by decide +kernel
theorem dP1_33 : decode method_4_code 33 = .ok (.iconst 1, 1) := by decide +kernel
theorem dP1_34 : decode method_4_code 34 = .ok (.if_icmp .ne 12, 3) := by decide +kernel
theorem dP1_37 : decode method_4_code 37 = .ok (.iconst 1, 1) := by decide +kernel
theorem dP1_38 : decode method_4_code 38 = .ok (.newarray .char, 2) := by decide +kernel
theorem dP1_40 : decode method_4_code 40 = .ok (.dup, 1) := by decide +kernel
theorem dP1_41 : decode method_4_code 41 = .ok (.iconst 0, 1) := by decide +kernel
theorem dP1_42 : decode method_4_code 42 = .ok (.iload 4, 2) := by decide +kernel
theorem dP1_44 : decode method_4_code 44 = .ok (.castore, 1) := by decide +kernel
theorem dP1_45 : decode method_4_code 45 = .ok (.areturn, 1) := by decide +kernel
theorem dP1_46 : decode method_4_code 46 = .ok (.iload_n 0, 1) := by decide +kernel
theorem dP1_47 : decode method_4_code 47 = .ok (.iconst 2, 1) := by decide +kernel
theorem dP1_48 : decode method_4_code 48 = .ok (.if_icmp .ne 17, 3) := by decide +kernel
theorem dP1_51 : decode method_4_code 51 = .ok (.iconst 2, 1) := by decide +kernel
theorem dP1_52 : decode method_4_code 52 = .ok (.newarray .char, 2) := by decide +kernel
theorem dP1_54 : decode method_4_code 54 = .ok (.dup, 1) := by decide +kernel
theorem dP1_55 : decode method_4_code 55 = .ok (.iconst 0, 1) := by decide +kernel
theorem dP1_56 : decode method_4_code 56 = .ok (.iload 4, 2) := by decide +kernel
theorem dP1_58 : decode method_4_code 58 = .ok (.castore, 1) := by decide +kernel
theorem dP1_59 : decode method_4_code 59 = .ok (.dup, 1) := by decide +kernel
theorem dP1_60 : decode method_4_code 60 = .ok (.iconst 1, 1) := by decide +kernel
theorem dP1_61 : decode method_4_code 61 = .ok (.iload 5, 2) := by decide +kernel
theorem dP1_63 : decode method_4_code 63 = .ok (.castore, 1) := by decide +kernel
theorem dP1_64 : decode method_4_code 64 = .ok (.areturn, 1) := by decide +kernel
theorem dP1_65 : decode method_4_code 65 = .ok (.iconst 3, 1) := by decide +kernel
theorem dP1_66 : decode method_4_code 66 = .ok (.newarray .char, 2) := by decide +kernel
theorem dP1_68 : decode method_4_code 68 = .ok (.dup, 1) := by decide +kernel
theorem dP1_69 : decode method_4_code 69 = .ok (.iconst 0, 1) := by decide +kernel
theorem dP1_70 : decode method_4_code 70 = .ok (.iload 4, 2) := by decide +kernel
theorem dP1_72 : decode method_4_code 72 = .ok (.castore, 1) := by decide +kernel
theorem dP1_73 : decode method_4_code 73 = .ok (.dup, 1) := by decide +kernel
theorem dP1_74 : decode method_4_code 74 = .ok (.iconst 1, 1) := by decide +kernel
theorem dP1_75 : decode method_4_code 75 = .ok (.iload 5, 2) := by decide +kernel
theorem dP1_77 : decode method_4_code 77 = .ok (.castore, 1) := by decide +kernel
theorem dP1_78 : decode method_4_code 78 = .ok (.dup, 1) := by decide +kernel
theorem dP1_79 : decode method_4_code 79 = .ok (.iconst 2, 1) := by decide +kernel
theorem dP1_80 : decode method_4_code 80 = .ok (.iload 6, 2) := by decide +kernel
theorem dP1_82 : decode method_4_code 82 = .ok (.castore, 1) := by decide +kernel
theorem dP1_83 : decode method_4_code 83 = .ok (.areturn, 1) := by decide +kernel
theorem dP2_0 : decode prog_4_method_4_code 0 = .ok (.aconst_null, 1) := by decide +kernel
theorem dP2_1 : decode prog_4_method_4_code 1 = .ok (.astore_n 1, 1) := by decide +kernel
theorem dP2_2 : decode prog_4_method_4_code 2 = .ok (.invokestatic 39, 3) := by decide +kernel
theorem dP2_5 : decode prog_4_method_4_code 5 = .ok (.astore_n 2, 1) := by decide +kernel
theorem dP2_6 : decode prog_4_method_4_code 6 = .ok (.aload_n 2, 1) := by decide +kernel
theorem dP2_7 : decode prog_4_method_4_code 7 = .ok (.arraylength, 1) := by decide +kernel
theorem dP2_8 : decode prog_4_method_4_code 8 = .ok (.istore_n 3, 1) := by decide +kernel
theorem dP2_9 : decode prog_4_method_4_code 9 = .ok (.iconst 0, 1) := by decide +kernel
theorem dP2_10 : decode prog_4_method_4_code 10 = .ok (.istore 4, 2) := by decide +kernel
theorem dP2_12 : decode prog_4_method_4_code 12 = .ok (.iload 4, 2) := by decide +kernel
theorem dP2_14 : decode prog_4_method_4_code 14 = .ok (.iload_n 3, 1) := by decide +kernel
theorem dP2_15 : decode prog_4_method_4_code 15 = .ok (.if_icmp .ge 33, 3) := by decide +kernel
theorem dP2_18 : decode prog_4_method_4_code 18 = .ok (.aload_n 2, 1) := by decide +kernel
theorem dP2_19 : decode prog_4_method_4_code 19 = .ok (.iload 4, 2) := by decide +kernel
theorem dP2_21 : decode prog_4_method_4_code 21 = .ok (.aaload, 1) := by decide +kernel
theorem dP2_22 : decode prog_4_method_4_code 22 = .ok (.astore 5, 2) := by decide +kernel
theorem dP2_24 : decode prog_4_method_4_code 24 = .ok (.aload 5, 2) := by decide +kernel
theorem dP2_26 : decode prog_4_method_4_code 26 = .ok (.getfield 32, 3) := by decide +kernel
theorem dP2_29 : decode prog_4_method_4_code 29 = .ok (.aload_n 0, 1) := by decide +kernel
theorem dP2_30 : decode prog_4_method_4_code 30 = .ok (.invokevirtual 43, 3) := by decide +kernel
theorem dP2_33 : decode prog_4_method_4_code 33 = .ok (.ifCond .eq 9, 3) := by decide +kernel
theorem dP2_36 : decode prog_4_method_4_code 36 = .ok (.aload 5, 2) := by decide +kernel
theorem dP2_38 : decode prog_4_method_4_code 38 = .ok (.astore_n 1, 1) := by decide +kernel
theorem dP2_39 : decode prog_4_method_4_code 39 = .ok (.goto 9, 3) := by decide +kernel
theorem dP2_42 : decode prog_4_method_4_code 42 = .ok (.iinc 4 1, 3) := by decide +kernel
theorem dP2_45 : decode prog_4_method_4_code 45 = .ok (.goto (-33), 3) := by decide +kernel
theorem dP2_48 : decode prog_4_method_4_code 48 = .ok (.aload_n 1, 1) := by decide +kernel
theorem dP2_49 : decode prog_4_method_4_code 49 = .ok (.areturn, 1) := by decide +kernel
theorem dP3_0 : decode prog_4_method_1_code 0 = .ok (.getstatic 13, 3) := by decide +kernel
theorem dP3_3 : decode prog_4_method_1_code 3 = .ok (.invokevirtual 17, 3) := by decide +kernel
theorem dP3_6 : decode prog_4_method_1_code 6 = .ok (.checkcast 18, 3) := by decide +kernel
theorem dP3_9 : decode prog_4_method_1_code 9 = .ok (.areturn, 1) := by decide +kernel
theorem dP4_0 : decode method_3_code 0 = .ok (.aload_n 0, 1) := by decide +kernel
theorem dP4_1 : decode method_3_code 1 = .ok (.ifnonnull 5, 3) := by decide +kernel
theorem dP4_4 : decode method_3_code 4 = .ok (.aconst_null, 1) := by decide +kernel
theorem dP4_5 : decode method_3_code 5 = .ok (.areturn, 1) := by decide +kernel
theorem dP4_6 : decode method_3_code 6 = .ok (.aload_n 0, 1) := by decide +kernel
theorem dP4_7 : decode method_3_code 7 = .ok (.ldc 32, 2) := by decide +kernel
theorem dP4_9 : decode method_3_code 9 = .ok (.invokevirtual 34, 3) := by decide +kernel
theorem dP4_12 : decode method_3_code 12 = .ok (.ifCond .eq 7, 3) := by decide +kernel
theorem dP4_15 : decode method_3_code 15 = .ok (.getstatic 38, 3) := by decide +kernel
theorem dP4_18 : decode method_3_code 18 = .ok (.areturn, 1) := by decide +kernel
theorem dP4_19 : decode method_3_code 19 = .ok (.aload_n 0, 1) := by decide +kernel
theorem dP4_20 : decode method_3_code 20 = .ok (.ldc 42, 2) := by decide +kernel
theorem dP4_22 : decode method_3_code 22 = .ok (.invokevirtual 34, 3) := by decide +kernel
theorem dP4_25 : decode method_3_code 25 = .ok (.ifCond .eq 7, 3) := by decide +kernel
theorem dP4_28 : decode method_3_code 28 = .ok (.getstatic 44, 3) := by decide +kernel
theorem dP4_31 : decode method_3_code 31 = .ok (.areturn, 1) := by decide +kernel
theorem dP4_32 : decode method_3_code 32 = .ok (.aload_n 0, 1) := by decide +kernel
theorem dP4_33 : decode method_3_code 33 = .ok (.ldc 47, 2) := by decide +kernel
theorem dP4_35 : decode method_3_code 35 = .ok (.invokevirtual 34, 3) := by decide +kernel
theorem dP4_38 : decode method_3_code 38 = .ok (.ifCond .eq 7, 3) := by decide +kernel
theorem dP4_41 : decode method_3_code 41 = .ok (.getstatic 49, 3) := by decide +kernel
theorem dP4_44 : decode method_3_code 44 = .ok (.areturn, 1) := by decide +kernel
theorem dP4_45 : decode method_3_code 45 = .ok (.aconst_null, 1) := by decide +kernel
theorem dP4_46 : decode method_3_code 46 = .ok (.areturn, 1) := by decide +kernel
theorem dP5_0 : decode jdk_42_method_66_code 0 = .ok (.aload_n 0, 1) := by decide +kernel
theorem dP5_1 : decode jdk_42_method_66_code 1 = .ok (.aload_n 1, 1) := by decide +kernel
theorem dP5_2 : decode jdk_42_method_66_code 2 = .ok (.if_acmp .ne 5, 3) := by decide +kernel
theorem dP5_5 : decode jdk_42_method_66_code 5 = .ok (.iconst 1, 1) := by decide +kernel
theorem dP5_6 : decode jdk_42_method_66_code 6 = .ok (.ireturn, 1) := by decide +kernel
theorem dP5_7 : decode jdk_42_method_66_code 7 = .ok (.aload_n 1, 1) := by decide +kernel
theorem dP5_8 : decode jdk_42_method_66_code 8 = .ok (.instanceof 10, 3) := by decide +kernel
theorem dP5_11 : decode jdk_42_method_66_code 11 = .ok (.ifCond .eq 43, 3) := by decide +kernel
theorem dP5_14 : decode jdk_42_method_66_code 14 = .ok (.aload_n 1, 1) := by decide +kernel
theorem dP5_15 : decode jdk_42_method_66_code 15 = .ok (.checkcast 10, 3) := by decide +kernel
theorem dP5_18 : decode jdk_42_method_66_code 18 = .ok (.astore_n 2, 1) := by decide +kernel
theorem dP5_19 : decode jdk_42_method_66_code 19 = .ok (.getstatic 38, 3) := by decide +kernel
theorem dP5_22 : decode jdk_42_method_66_code 22 = .ok (.ifCond .eq 14, 3) := by decide +kernel
theorem dP5_25 : decode jdk_42_method_66_code 25 = .ok (.aload_n 0, 1) := by decide +kernel
theorem dP5_26 : decode jdk_42_method_66_code 26 = .ok (.getfield 15, 3) := by decide +kernel
theorem dP5_29 : decode jdk_42_method_66_code 29 = .ok (.aload_n 2, 1) := by decide +kernel
theorem dP5_30 : decode jdk_42_method_66_code 30 = .ok (.getfield 15, 3) := by decide +kernel
theorem dP5_33 : decode jdk_42_method_66_code 33 = .ok (.if_icmp .ne 21, 3) := by decide +kernel
theorem dP5_36 : decode jdk_42_method_66_code 36 = .ok (.aload_n 0, 1) := by decide +kernel
theorem dP5_37 : decode jdk_42_method_66_code 37 = .ok (.getfield 9, 3) := by decide +kernel
theorem dP5_40 : decode jdk_42_method_66_code 40 = .ok (.aload_n 2, 1) := by decide +kernel
theorem dP5_41 : decode jdk_42_method_66_code 41 = .ok (.getfield 9, 3) := by decide +kernel
theorem dP5_44 : decode jdk_42_method_66_code 44 = .ok (.invokestatic 541, 3) := by decide +kernel
theorem dP5_47 : decode jdk_42_method_66_code 47 = .ok (.ifCond .eq 7, 3) := by decide +kernel
theorem dP5_50 : decode jdk_42_method_66_code 50 = .ok (.iconst 1, 1) := by decide +kernel
theorem dP5_51 : decode jdk_42_method_66_code 51 = .ok (.goto 4, 3) := by decide +kernel
theorem dP5_54 : decode jdk_42_method_66_code 54 = .ok (.iconst 0, 1) := by decide +kernel
theorem dP5_55 : decode jdk_42_method_66_code 55 = .ok (.ireturn, 1) := by decide +kernel
theorem pd__III__C : parseMethodDescriptor "(III)[C" = some ⟨[.int, .int, .int], (some (.array .char))⟩ := by decide +kernel
theorem pd__IIII__C : parseMethodDescriptor "(IIII)[C" = some ⟨[.int, .int, .int, .int], (some (.array .char))⟩ := by decide +kernel
theorem pd__Ljava_lang_String__Lcom_example_tidy_shelf_tidyshelf_catalogue_BookSort_ : parseMethodDescriptor "(Ljava/lang/String;)Lcom/example/tidy_shelf/tidyshelf/catalogue/BookSort;" = some ⟨[(.object "java/lang/String")], (some (.object "com/example/tidy_shelf/tidyshelf/catalogue/BookSort"))⟩ := by decide +kernel
theorem pd____Lcom_example_tidy_shelf_tidyshelf_catalogue_BookSort_ : parseMethodDescriptor "()[Lcom/example/tidy_shelf/tidyshelf/catalogue/BookSort;" = some ⟨[], (some (.array (.object "com/example/tidy_shelf/tidyshelf/catalogue/BookSort")))⟩ := by decide +kernel
theorem pd__Ljava_lang_Object__Z : parseMethodDescriptor "(Ljava/lang/Object;)Z" = some ⟨[(.object "java/lang/Object")], (some .boolean)⟩ := by decide +kernel
theorem pn_com_example_tidy_shelf_tidyshelf_catalogue_BookSortNamedPinLaw : plainName "com/example/tidy_shelf/tidyshelf/catalogue/BookSortNamedPinLaw" = true := by first | (simp [plainName, overriddenIn]; done) | decide +kernel
set_option maxRecDepth 65536 in
set_option maxHeartbeats 4000000 in
theorem con_base (l : Launch) (Z : State) (a0 : Array Value) (hw : ∀ d ∈ tables_1, d.before a0 Z = true) (hEL : EW Z a0 consts_1) (k0 md w : Int32) (h0 : Heap) :
    Ocon l Z consts_1 (⟨"com/example/tidy_shelf/tidyshelf/catalogue/BookSortNamedPinLaw", "base", "(III)[C"⟩ : MethodName) method_5_code 4 (some (.array .char)) [] ({ frames := 0, cells := 1, slots := 16, locals := 0 } : Room) #[(.int k0), (.int md), (.int w)] h0 [] [] (fun v h _ => ∃ (a : Addr) (kC : ClassId) (cs : List Int32), v = some (.ref a) ∧ Ext h0 h ∧ h0.size ≤ a ∧ 0 < cs.length ∧ cs.length ≤ 16 ∧ (∀ c ∈ cs, ¬ c < 0 ∧ ¬ (255 : Int32) < c) ∧ Arv Z h a kC .char (Int32.ofNat cs.length) (cs.map Value.int) (.int 0)) := by
  refine own_con (a0 := a0) hEL (plainFor_of_name pn_com_example_tidy_shelf_tidyshelf_catalogue_BookSortNamedPinLaw) ?_
  intro p e s m below meth c T hs W0
  have ef : entryFrame m #[(.int k0), (.int md), (.int w)] 4 = mkF m 0 #[.val (.int k0), .val (.int md), .val (.int w), .unset] [] := by first | rfl | (simp [entryFrame, mkF, argsToLocals, Value.category]; done)
  rw [ef]
  refine g_iloadN W0 dP0_0 (pc' := 1) rfl rfl ?_
  refine g_sipush W0 dP0_1 (pc' := 4) rfl (v := 255) rfl ?_
  refine g_iand W0 dP0_4 (pc' := 5) rfl ?_
  refine g_i2c W0 dP0_5 (pc' := 6) rfl ?_
  rw [i2c_mask]
  refine g_istoreN W0 dP0_6 (pc' := 7) rfl (ls' := #[.val (.int k0), .val (.int md), .val (.int w), .val (.int (w &&& (255 : Int32)))]) rfl ?_
  refine g_iloadN W0 dP0_7 (pc' := 8) rfl rfl ?_
  by_cases c89 : k0 = (0 : Int32)
  · skip
    refine g_ifN W0 dP0_8 (pc' := 11) (teq c89).2 rfl ?_
    refine g_iloadN W0 dP0_11 (pc' := 12) rfl rfl ?_
    refine g_iconst W0 dP0_12 (pc' := 13) rfl (v := 1) rfl ?_
    by_cases c90 : md = (1 : Int32)
    · skip
      refine g_icN W0 dP0_13 (pc' := 16) (teq c90).2 rfl ?_
      refine g_bipush W0 dP0_16 (pc' := 18) rfl (v := 6) rfl ?_
      refine g_newP W0 dP0_18 (pc' := 20) (cap := 6) rfl (ty := .char) (dv := (.int 0)) rfl rfl (hw _ (List.mem_of_getElem? (i := 4) rfl)) (by decide) (by decide) (by decide) (by decide) (by decide) ?_
      intro T91 h92 cA93 E94 A95 W96
      obtain ⟨a97, g98⟩ : ∃ z, z = h0.size := ⟨_, rfl⟩
      rw [← g98] at A95 W96 ⊢
      have na97 : s.heap.size ≤ a97 := by rw [g98]; exact W0.grown
      refine g_dup W96 dP0_20 (pc' := 21) rfl rfl ?_
      refine g_iconst W96 dP0_21 (pc' := 22) rfl (v := 0) rfl ?_
      refine g_bipush W96 dP0_22 (pc' := 24) rfl (v := 116) rfl ?_
      refine g_castore W96 dP0_24 (pc' := 25) rfl (own_pad0 6 A95) (i := 0) rfl (by decide) (by first | decide | simp) (y := (116 : Int32)) (by decide) (vs' := [(.int (116 : Int32)), (.int (0 : Int32)), (.int (0 : Int32)), (.int (0 : Int32)), (.int (0 : Int32)), (.int (0 : Int32))]) rfl (by simp) (Or.inr na97) ?_
      intro T99 h100 w101 A102 W103
      have X104 : Ext h0 h100 := own_ext_wr E94 w101 (by rw [g98]; exact Nat.le_refl _)
      refine g_dup W103 dP0_25 (pc' := 26) rfl rfl ?_
      refine g_iconst W103 dP0_26 (pc' := 27) rfl (v := 1) rfl ?_
      refine g_bipush W103 dP0_27 (pc' := 29) rfl (v := 105) rfl ?_
      refine g_castore W103 dP0_29 (pc' := 30) rfl A102 (i := 1) rfl (by decide) (by first | decide | simp) (y := (105 : Int32)) (by decide) (vs' := [(.int (116 : Int32)), (.int (105 : Int32)), (.int (0 : Int32)), (.int (0 : Int32)), (.int (0 : Int32)), (.int (0 : Int32))]) rfl (by simp) (Or.inr na97) ?_
      intro T105 h106 w107 A108 W109
      have X110 : Ext h0 h106 := own_ext_wr X104 w107 (by rw [g98]; exact Nat.le_refl _)
      refine g_dup W109 dP0_30 (pc' := 31) rfl rfl ?_
      refine g_iconst W109 dP0_31 (pc' := 32) rfl (v := 2) rfl ?_
      refine g_bipush W109 dP0_32 (pc' := 34) rfl (v := 116) rfl ?_
      refine g_castore W109 dP0_34 (pc' := 35) rfl A108 (i := 2) rfl (by decide) (by first | decide | simp) (y := (116 : Int32)) (by decide) (vs' := [(.int (116 : Int32)), (.int (105 : Int32)), (.int (116 : Int32)), (.int (0 : Int32)), (.int (0 : Int32)), (.int (0 : Int32))]) rfl (by simp) (Or.inr na97) ?_
      intro T111 h112 w113 A114 W115
      have X116 : Ext h0 h112 := own_ext_wr X110 w113 (by rw [g98]; exact Nat.le_refl _)
      refine g_dup W115 dP0_35 (pc' := 36) rfl rfl ?_
      refine g_iconst W115 dP0_36 (pc' := 37) rfl (v := 3) rfl ?_
      refine g_bipush W115 dP0_37 (pc' := 39) rfl (v := 108) rfl ?_
      refine g_castore W115 dP0_39 (pc' := 40) rfl A114 (i := 3) rfl (by decide) (by first | decide | simp) (y := (108 : Int32)) (by decide) (vs' := [(.int (116 : Int32)), (.int (105 : Int32)), (.int (116 : Int32)), (.int (108 : Int32)), (.int (0 : Int32)), (.int (0 : Int32))]) rfl (by simp) (Or.inr na97) ?_
      intro T117 h118 w119 A120 W121
      have X122 : Ext h0 h118 := own_ext_wr X116 w119 (by rw [g98]; exact Nat.le_refl _)
      refine g_dup W121 dP0_40 (pc' := 41) rfl rfl ?_
      refine g_iconst W121 dP0_41 (pc' := 42) rfl (v := 4) rfl ?_
      refine g_bipush W121 dP0_42 (pc' := 44) rfl (v := 101) rfl ?_
      refine g_castore W121 dP0_44 (pc' := 45) rfl A120 (i := 4) rfl (by decide) (by first | decide | simp) (y := (101 : Int32)) (by decide) (vs' := [(.int (116 : Int32)), (.int (105 : Int32)), (.int (116 : Int32)), (.int (108 : Int32)), (.int (101 : Int32)), (.int (0 : Int32))]) rfl (by simp) (Or.inr na97) ?_
      intro T123 h124 w125 A126 W127
      have X128 : Ext h0 h124 := own_ext_wr X122 w125 (by rw [g98]; exact Nat.le_refl _)
      refine g_dup W127 dP0_45 (pc' := 46) rfl rfl ?_
      refine g_iconst W127 dP0_46 (pc' := 47) rfl (v := 5) rfl ?_
      refine g_iloadN W127 dP0_47 (pc' := 48) rfl rfl ?_
      refine g_castore W127 dP0_48 (pc' := 49) rfl A126 (i := 5) rfl (by decide) (by first | decide | simp) (y := (w &&& (255 : Int32))) (i2c_mask _) (vs' := [(.int (116 : Int32)), (.int (105 : Int32)), (.int (116 : Int32)), (.int (108 : Int32)), (.int (101 : Int32)), (.int (w &&& (255 : Int32)))]) rfl (by simp) (Or.inr na97) ?_
      intro T129 h130 w131 A132 W133
      have X134 : Ext h0 h130 := own_ext_wr X128 w131 (by rw [g98]; exact Nat.le_refl _)
      exact g_aret W133 dP0_49 rfl rfl rfl rfl ⟨a97, _, [(116 : Int32), (105 : Int32), (116 : Int32), (108 : Int32), (101 : Int32), (w &&& (255 : Int32))], rfl, X134, (by first | exact Nat.le_refl _ | exact Nat.le_of_eq g98.symm), by simp, by simp, (own_bc (by decide) (own_bc (by decide) (own_bc (by decide) (own_bc (by decide) (own_bc (by decide) (own_bc (own_b255 _) own_b0)))))), A132⟩
    · skip
      refine g_icY W0 dP0_13 (pc' := 50) (feq c90).2 (by decide) (by decide) ?_
      refine g_iloadN W0 dP0_50 (pc' := 51) rfl rfl ?_
      refine g_iconst W0 dP0_51 (pc' := 52) rfl (v := 2) rfl ?_
      by_cases c135 : md = (2 : Int32)
      · skip
        refine g_icN W0 dP0_52 (pc' := 55) (teq c135).2 rfl ?_
        refine g_iconst W0 dP0_55 (pc' := 56) rfl (v := 4) rfl ?_
        refine g_newP W0 dP0_56 (pc' := 58) (cap := 4) rfl (ty := .char) (dv := (.int 0)) rfl rfl (hw _ (List.mem_of_getElem? (i := 4) rfl)) (by decide) (by decide) (by decide) (by decide) (by decide) ?_
        intro T136 h137 cA138 E139 A140 W141
        obtain ⟨a142, g143⟩ : ∃ z, z = h0.size := ⟨_, rfl⟩
        rw [← g143] at A140 W141 ⊢
        have na142 : s.heap.size ≤ a142 := by rw [g143]; exact W0.grown
        refine g_dup W141 dP0_58 (pc' := 59) rfl rfl ?_
        refine g_iconst W141 dP0_59 (pc' := 60) rfl (v := 0) rfl ?_
        refine g_bipush W141 dP0_60 (pc' := 62) rfl (v := 116) rfl ?_
        refine g_castore W141 dP0_62 (pc' := 63) rfl (own_pad0 4 A140) (i := 0) rfl (by decide) (by first | decide | simp) (y := (116 : Int32)) (by decide) (vs' := [(.int (116 : Int32)), (.int (0 : Int32)), (.int (0 : Int32)), (.int (0 : Int32))]) rfl (by simp) (Or.inr na142) ?_
        intro T144 h145 w146 A147 W148
        have X149 : Ext h0 h145 := own_ext_wr E139 w146 (by rw [g143]; exact Nat.le_refl _)
        refine g_dup W148 dP0_63 (pc' := 64) rfl rfl ?_
        refine g_iconst W148 dP0_64 (pc' := 65) rfl (v := 1) rfl ?_
        refine g_bipush W148 dP0_65 (pc' := 67) rfl (v := 105) rfl ?_
        refine g_castore W148 dP0_67 (pc' := 68) rfl A147 (i := 1) rfl (by decide) (by first | decide | simp) (y := (105 : Int32)) (by decide) (vs' := [(.int (116 : Int32)), (.int (105 : Int32)), (.int (0 : Int32)), (.int (0 : Int32))]) rfl (by simp) (Or.inr na142) ?_
        intro T150 h151 w152 A153 W154
        have X155 : Ext h0 h151 := own_ext_wr X149 w152 (by rw [g143]; exact Nat.le_refl _)
        refine g_dup W154 dP0_68 (pc' := 69) rfl rfl ?_
        refine g_iconst W154 dP0_69 (pc' := 70) rfl (v := 2) rfl ?_
        refine g_bipush W154 dP0_70 (pc' := 72) rfl (v := 116) rfl ?_
        refine g_castore W154 dP0_72 (pc' := 73) rfl A153 (i := 2) rfl (by decide) (by first | decide | simp) (y := (116 : Int32)) (by decide) (vs' := [(.int (116 : Int32)), (.int (105 : Int32)), (.int (116 : Int32)), (.int (0 : Int32))]) rfl (by simp) (Or.inr na142) ?_
        intro T156 h157 w158 A159 W160
        have X161 : Ext h0 h157 := own_ext_wr X155 w158 (by rw [g143]; exact Nat.le_refl _)
        refine g_dup W160 dP0_73 (pc' := 74) rfl rfl ?_
        refine g_iconst W160 dP0_74 (pc' := 75) rfl (v := 3) rfl ?_
        refine g_bipush W160 dP0_75 (pc' := 77) rfl (v := 108) rfl ?_
        refine g_castore W160 dP0_77 (pc' := 78) rfl A159 (i := 3) rfl (by decide) (by first | decide | simp) (y := (108 : Int32)) (by decide) (vs' := [(.int (116 : Int32)), (.int (105 : Int32)), (.int (116 : Int32)), (.int (108 : Int32))]) rfl (by simp) (Or.inr na142) ?_
        intro T162 h163 w164 A165 W166
        have X167 : Ext h0 h163 := own_ext_wr X161 w164 (by rw [g143]; exact Nat.le_refl _)
        exact g_aret W166 dP0_78 rfl rfl rfl rfl ⟨a142, _, [(116 : Int32), (105 : Int32), (116 : Int32), (108 : Int32)], rfl, X167, (by first | exact Nat.le_refl _ | exact Nat.le_of_eq g143.symm), by simp, by simp, (own_bc (by decide) (own_bc (by decide) (own_bc (by decide) (own_bc (by decide) own_b0)))), A165⟩
      · skip
        refine g_icY W0 dP0_52 (pc' := 79) (feq c135).2 (by decide) (by decide) ?_
        refine g_iconst W0 dP0_79 (pc' := 80) rfl (v := 5) rfl ?_
        refine g_newP W0 dP0_80 (pc' := 82) (cap := 5) rfl (ty := .char) (dv := (.int 0)) rfl rfl (hw _ (List.mem_of_getElem? (i := 4) rfl)) (by decide) (by decide) (by decide) (by decide) (by decide) ?_
        intro T168 h169 cA170 E171 A172 W173
        obtain ⟨a174, g175⟩ : ∃ z, z = h0.size := ⟨_, rfl⟩
        rw [← g175] at A172 W173 ⊢
        have na174 : s.heap.size ≤ a174 := by rw [g175]; exact W0.grown
        refine g_dup W173 dP0_82 (pc' := 83) rfl rfl ?_
        refine g_iconst W173 dP0_83 (pc' := 84) rfl (v := 0) rfl ?_
        refine g_bipush W173 dP0_84 (pc' := 86) rfl (v := 116) rfl ?_
        refine g_castore W173 dP0_86 (pc' := 87) rfl (own_pad0 5 A172) (i := 0) rfl (by decide) (by first | decide | simp) (y := (116 : Int32)) (by decide) (vs' := [(.int (116 : Int32)), (.int (0 : Int32)), (.int (0 : Int32)), (.int (0 : Int32)), (.int (0 : Int32))]) rfl (by simp) (Or.inr na174) ?_
        intro T176 h177 w178 A179 W180
        have X181 : Ext h0 h177 := own_ext_wr E171 w178 (by rw [g175]; exact Nat.le_refl _)
        refine g_dup W180 dP0_87 (pc' := 88) rfl rfl ?_
        refine g_iconst W180 dP0_88 (pc' := 89) rfl (v := 1) rfl ?_
        refine g_bipush W180 dP0_89 (pc' := 91) rfl (v := 105) rfl ?_
        refine g_castore W180 dP0_91 (pc' := 92) rfl A179 (i := 1) rfl (by decide) (by first | decide | simp) (y := (105 : Int32)) (by decide) (vs' := [(.int (116 : Int32)), (.int (105 : Int32)), (.int (0 : Int32)), (.int (0 : Int32)), (.int (0 : Int32))]) rfl (by simp) (Or.inr na174) ?_
        intro T182 h183 w184 A185 W186
        have X187 : Ext h0 h183 := own_ext_wr X181 w184 (by rw [g175]; exact Nat.le_refl _)
        refine g_dup W186 dP0_92 (pc' := 93) rfl rfl ?_
        refine g_iconst W186 dP0_93 (pc' := 94) rfl (v := 2) rfl ?_
        refine g_bipush W186 dP0_94 (pc' := 96) rfl (v := 116) rfl ?_
        refine g_castore W186 dP0_96 (pc' := 97) rfl A185 (i := 2) rfl (by decide) (by first | decide | simp) (y := (116 : Int32)) (by decide) (vs' := [(.int (116 : Int32)), (.int (105 : Int32)), (.int (116 : Int32)), (.int (0 : Int32)), (.int (0 : Int32))]) rfl (by simp) (Or.inr na174) ?_
        intro T188 h189 w190 A191 W192
        have X193 : Ext h0 h189 := own_ext_wr X187 w190 (by rw [g175]; exact Nat.le_refl _)
        refine g_dup W192 dP0_97 (pc' := 98) rfl rfl ?_
        refine g_iconst W192 dP0_98 (pc' := 99) rfl (v := 3) rfl ?_
        refine g_bipush W192 dP0_99 (pc' := 101) rfl (v := 108) rfl ?_
        refine g_castore W192 dP0_101 (pc' := 102) rfl A191 (i := 3) rfl (by decide) (by first | decide | simp) (y := (108 : Int32)) (by decide) (vs' := [(.int (116 : Int32)), (.int (105 : Int32)), (.int (116 : Int32)), (.int (108 : Int32)), (.int (0 : Int32))]) rfl (by simp) (Or.inr na174) ?_
        intro T194 h195 w196 A197 W198
        have X199 : Ext h0 h195 := own_ext_wr X193 w196 (by rw [g175]; exact Nat.le_refl _)
        refine g_dup W198 dP0_102 (pc' := 103) rfl rfl ?_
        refine g_iconst W198 dP0_103 (pc' := 104) rfl (v := 4) rfl ?_
        refine g_bipush W198 dP0_104 (pc' := 106) rfl (v := 101) rfl ?_
        refine g_castore W198 dP0_106 (pc' := 107) rfl A197 (i := 4) rfl (by decide) (by first | decide | simp) (y := (101 : Int32)) (by decide) (vs' := [(.int (116 : Int32)), (.int (105 : Int32)), (.int (116 : Int32)), (.int (108 : Int32)), (.int (101 : Int32))]) rfl (by simp) (Or.inr na174) ?_
        intro T200 h201 w202 A203 W204
        have X205 : Ext h0 h201 := own_ext_wr X199 w202 (by rw [g175]; exact Nat.le_refl _)
        exact g_aret W204 dP0_107 rfl rfl rfl rfl ⟨a174, _, [(116 : Int32), (105 : Int32), (116 : Int32), (108 : Int32), (101 : Int32)], rfl, X205, (by first | exact Nat.le_refl _ | exact Nat.le_of_eq g175.symm), by simp, by simp, (own_bc (by decide) (own_bc (by decide) (own_bc (by decide) (own_bc (by decide) (own_bc (by decide) own_b0))))), A203⟩
  · skip
    refine g_ifY W0 dP0_8 (pc' := 108) (feq c89).2 (by decide) (by decide) ?_
    refine g_iloadN W0 dP0_108 (pc' := 109) rfl rfl ?_
    refine g_iconst W0 dP0_109 (pc' := 110) rfl (v := 1) rfl ?_
    by_cases c206 : k0 = (1 : Int32)
    · skip
      refine g_icN W0 dP0_110 (pc' := 113) (teq c206).2 rfl ?_
      refine g_iloadN W0 dP0_113 (pc' := 114) rfl rfl ?_
      refine g_iconst W0 dP0_114 (pc' := 115) rfl (v := 1) rfl ?_
      by_cases c207 : md = (1 : Int32)
      · skip
        refine g_icN W0 dP0_115 (pc' := 118) (teq c207).2 rfl ?_
        refine g_bipush W0 dP0_118 (pc' := 120) rfl (v := 14) rfl ?_
        refine g_newP W0 dP0_120 (pc' := 122) (cap := 14) rfl (ty := .char) (dv := (.int 0)) rfl rfl (hw _ (List.mem_of_getElem? (i := 4) rfl)) (by decide) (by decide) (by decide) (by decide) (by decide) ?_
        intro T208 h209 cA210 E211 A212 W213
        obtain ⟨a214, g215⟩ : ∃ z, z = h0.size := ⟨_, rfl⟩
        rw [← g215] at A212 W213 ⊢
        have na214 : s.heap.size ≤ a214 := by rw [g215]; exact W0.grown
        refine g_dup W213 dP0_122 (pc' := 123) rfl rfl ?_
        refine g_iconst W213 dP0_123 (pc' := 124) rfl (v := 0) rfl ?_
        refine g_bipush W213 dP0_124 (pc' := 126) rfl (v := 112) rfl ?_
        refine g_castore W213 dP0_126 (pc' := 127) rfl (own_pad0 14 A212) (i := 0) rfl (by decide) (by first | decide | simp) (y := (112 : Int32)) (by decide) (vs' := [(.int (112 : Int32)), (.int (0 : Int32)), (.int (0 : Int32)), (.int (0 : Int32)), (.int (0 : Int32)), (.int (0 : Int32)), (.int (0 : Int32)), (.int (0 : Int32)), (.int (0 : Int32)), (.int (0 : Int32)), (.int (0 : Int32)), (.int (0 : Int32)), (.int (0 : Int32)), (.int (0 : Int32))]) rfl (by simp) (Or.inr na214) ?_
        intro T216 h217 w218 A219 W220
        have X221 : Ext h0 h217 := own_ext_wr E211 w218 (by rw [g215]; exact Nat.le_refl _)
        refine g_dup W220 dP0_127 (pc' := 128) rfl rfl ?_
        refine g_iconst W220 dP0_128 (pc' := 129) rfl (v := 1) rfl ?_
        refine g_bipush W220 dP0_129 (pc' := 131) rfl (v := 117) rfl ?_
        refine g_castore W220 dP0_131 (pc' := 132) rfl A219 (i := 1) rfl (by decide) (by first | decide | simp) (y := (117 : Int32)) (by decide) (vs' := [(.int (112 : Int32)), (.int (117 : Int32)), (.int (0 : Int32)), (.int (0 : Int32)), (.int (0 : Int32)), (.int (0 : Int32)), (.int (0 : Int32)), (.int (0 : Int32)), (.int (0 : Int32)), (.int (0 : Int32)), (.int (0 : Int32)), (.int (0 : Int32)), (.int (0 : Int32)), (.int (0 : Int32))]) rfl (by simp) (Or.inr na214) ?_
        intro T222 h223 w224 A225 W226
        have X227 : Ext h0 h223 := own_ext_wr X221 w224 (by rw [g215]; exact Nat.le_refl _)
        refine g_dup W226 dP0_132 (pc' := 133) rfl rfl ?_
        refine g_iconst W226 dP0_133 (pc' := 134) rfl (v := 2) rfl ?_
        refine g_bipush W226 dP0_134 (pc' := 136) rfl (v := 98) rfl ?_
        refine g_castore W226 dP0_136 (pc' := 137) rfl A225 (i := 2) rfl (by decide) (by first | decide | simp) (y := (98 : Int32)) (by decide) (vs' := [(.int (112 : Int32)), (.int (117 : Int32)), (.int (98 : Int32)), (.int (0 : Int32)), (.int (0 : Int32)), (.int (0 : Int32)), (.int (0 : Int32)), (.int (0 : Int32)), (.int (0 : Int32)), (.int (0 : Int32)), (.int (0 : Int32)), (.int (0 : Int32)), (.int (0 : Int32)), (.int (0 : Int32))]) rfl (by simp) (Or.inr na214) ?_
        intro T228 h229 w230 A231 W232
        have X233 : Ext h0 h229 := own_ext_wr X227 w230 (by rw [g215]; exact Nat.le_refl _)
        refine g_dup W232 dP0_137 (pc' := 138) rfl rfl ?_
        refine g_iconst W232 dP0_138 (pc' := 139) rfl (v := 3) rfl ?_
        refine g_bipush W232 dP0_139 (pc' := 141) rfl (v := 108) rfl ?_
        refine g_castore W232 dP0_141 (pc' := 142) rfl A231 (i := 3) rfl (by decide) (by first | decide | simp) (y := (108 : Int32)) (by decide) (vs' := [(.int (112 : Int32)), (.int (117 : Int32)), (.int (98 : Int32)), (.int (108 : Int32)), (.int (0 : Int32)), (.int (0 : Int32)), (.int (0 : Int32)), (.int (0 : Int32)), (.int (0 : Int32)), (.int (0 : Int32)), (.int (0 : Int32)), (.int (0 : Int32)), (.int (0 : Int32)), (.int (0 : Int32))]) rfl (by simp) (Or.inr na214) ?_
        intro T234 h235 w236 A237 W238
        have X239 : Ext h0 h235 := own_ext_wr X233 w236 (by rw [g215]; exact Nat.le_refl _)
        refine g_dup W238 dP0_142 (pc' := 143) rfl rfl ?_
        refine g_iconst W238 dP0_143 (pc' := 144) rfl (v := 4) rfl ?_
        refine g_bipush W238 dP0_144 (pc' := 146) rfl (v := 105) rfl ?_
        refine g_castore W238 dP0_146 (pc' := 147) rfl A237 (i := 4) rfl (by decide) (by first | decide | simp) (y := (105 : Int32)) (by decide) (vs' := [(.int (112 : Int32)), (.int (117 : Int32)), (.int (98 : Int32)), (.int (108 : Int32)), (.int (105 : Int32)), (.int (0 : Int32)), (.int (0 : Int32)), (.int (0 : Int32)), (.int (0 : Int32)), (.int (0 : Int32)), (.int (0 : Int32)), (.int (0 : Int32)), (.int (0 : Int32)), (.int (0 : Int32))]) rfl (by simp) (Or.inr na214) ?_
        intro T240 h241 w242 A243 W244
        have X245 : Ext h0 h241 := own_ext_wr X239 w242 (by rw [g215]; exact Nat.le_refl _)
        refine g_dup W244 dP0_147 (pc' := 148) rfl rfl ?_
        refine g_iconst W244 dP0_148 (pc' := 149) rfl (v := 5) rfl ?_
        refine g_bipush W244 dP0_149 (pc' := 151) rfl (v := 115) rfl ?_
        refine g_castore W244 dP0_151 (pc' := 152) rfl A243 (i := 5) rfl (by decide) (by first | decide | simp) (y := (115 : Int32)) (by decide) (vs' := [(.int (112 : Int32)), (.int (117 : Int32)), (.int (98 : Int32)), (.int (108 : Int32)), (.int (105 : Int32)), (.int (115 : Int32)), (.int (0 : Int32)), (.int (0 : Int32)), (.int (0 : Int32)), (.int (0 : Int32)), (.int (0 : Int32)), (.int (0 : Int32)), (.int (0 : Int32)), (.int (0 : Int32))]) rfl (by simp) (Or.inr na214) ?_
        intro T246 h247 w248 A249 W250
        have X251 : Ext h0 h247 := own_ext_wr X245 w248 (by rw [g215]; exact Nat.le_refl _)
        refine g_dup W250 dP0_152 (pc' := 153) rfl rfl ?_
        refine g_bipush W250 dP0_153 (pc' := 155) rfl (v := 6) rfl ?_
        refine g_bipush W250 dP0_155 (pc' := 157) rfl (v := 104) rfl ?_
        refine g_castore W250 dP0_157 (pc' := 158) rfl A249 (i := 6) rfl (by decide) (by first | decide | simp) (y := (104 : Int32)) (by decide) (vs' := [(.int (112 : Int32)), (.int (117 : Int32)), (.int (98 : Int32)), (.int (108 : Int32)), (.int (105 : Int32)), (.int (115 : Int32)), (.int (104 : Int32)), (.int (0 : Int32)), (.int (0 : Int32)), (.int (0 : Int32)), (.int (0 : Int32)), (.int (0 : Int32)), (.int (0 : Int32)), (.int (0 : Int32))]) rfl (by simp) (Or.inr na214) ?_
        intro T252 h253 w254 A255 W256
        have X257 : Ext h0 h253 := own_ext_wr X251 w254 (by rw [g215]; exact Nat.le_refl _)
        refine g_dup W256 dP0_158 (pc' := 159) rfl rfl ?_
        refine g_bipush W256 dP0_159 (pc' := 161) rfl (v := 7) rfl ?_
        refine g_bipush W256 dP0_161 (pc' := 163) rfl (v := 101) rfl ?_
        refine g_castore W256 dP0_163 (pc' := 164) rfl A255 (i := 7) rfl (by decide) (by first | decide | simp) (y := (101 : Int32)) (by decide) (vs' := [(.int (112 : Int32)), (.int (117 : Int32)), (.int (98 : Int32)), (.int (108 : Int32)), (.int (105 : Int32)), (.int (115 : Int32)), (.int (104 : Int32)), (.int (101 : Int32)), (.int (0 : Int32)), (.int (0 : Int32)), (.int (0 : Int32)), (.int (0 : Int32)), (.int (0 : Int32)), (.int (0 : Int32))]) rfl (by simp) (Or.inr na214) ?_
        intro T258 h259 w260 A261 W262
        have X263 : Ext h0 h259 := own_ext_wr X257 w260 (by rw [g215]; exact Nat.le_refl _)
        refine g_dup W262 dP0_164 (pc' := 165) rfl rfl ?_
        refine g_bipush W262 dP0_165 (pc' := 167) rfl (v := 8) rfl ?_
        refine g_bipush W262 dP0_167 (pc' := 169) rfl (v := 100) rfl ?_
        refine g_castore W262 dP0_169 (pc' := 170) rfl A261 (i := 8) rfl (by decide) (by first | decide | simp) (y := (100 : Int32)) (by decide) (vs' := [(.int (112 : Int32)), (.int (117 : Int32)), (.int (98 : Int32)), (.int (108 : Int32)), (.int (105 : Int32)), (.int (115 : Int32)), (.int (104 : Int32)), (.int (101 : Int32)), (.int (100 : Int32)), (.int (0 : Int32)), (.int (0 : Int32)), (.int (0 : Int32)), (.int (0 : Int32)), (.int (0 : Int32))]) rfl (by simp) (Or.inr na214) ?_
        intro T264 h265 w266 A267 W268
        have X269 : Ext h0 h265 := own_ext_wr X263 w266 (by rw [g215]; exact Nat.le_refl _)
        refine g_dup W268 dP0_170 (pc' := 171) rfl rfl ?_
        refine g_bipush W268 dP0_171 (pc' := 173) rfl (v := 9) rfl ?_
        refine g_bipush W268 dP0_173 (pc' := 175) rfl (v := 68) rfl ?_
        refine g_castore W268 dP0_175 (pc' := 176) rfl A267 (i := 9) rfl (by decide) (by first | decide | simp) (y := (68 : Int32)) (by decide) (vs' := [(.int (112 : Int32)), (.int (117 : Int32)), (.int (98 : Int32)), (.int (108 : Int32)), (.int (105 : Int32)), (.int (115 : Int32)), (.int (104 : Int32)), (.int (101 : Int32)), (.int (100 : Int32)), (.int (68 : Int32)), (.int (0 : Int32)), (.int (0 : Int32)), (.int (0 : Int32)), (.int (0 : Int32))]) rfl (by simp) (Or.inr na214) ?_
        intro T270 h271 w272 A273 W274
        have X275 : Ext h0 h271 := own_ext_wr X269 w272 (by rw [g215]; exact Nat.le_refl _)
        refine g_dup W274 dP0_176 (pc' := 177) rfl rfl ?_
        refine g_bipush W274 dP0_177 (pc' := 179) rfl (v := 10) rfl ?_
        refine g_bipush W274 dP0_179 (pc' := 181) rfl (v := 97) rfl ?_
        refine g_castore W274 dP0_181 (pc' := 182) rfl A273 (i := 10) rfl (by decide) (by first | decide | simp) (y := (97 : Int32)) (by decide) (vs' := [(.int (112 : Int32)), (.int (117 : Int32)), (.int (98 : Int32)), (.int (108 : Int32)), (.int (105 : Int32)), (.int (115 : Int32)), (.int (104 : Int32)), (.int (101 : Int32)), (.int (100 : Int32)), (.int (68 : Int32)), (.int (97 : Int32)), (.int (0 : Int32)), (.int (0 : Int32)), (.int (0 : Int32))]) rfl (by simp) (Or.inr na214) ?_
        intro T276 h277 w278 A279 W280
        have X281 : Ext h0 h277 := own_ext_wr X275 w278 (by rw [g215]; exact Nat.le_refl _)
        refine g_dup W280 dP0_182 (pc' := 183) rfl rfl ?_
        refine g_bipush W280 dP0_183 (pc' := 185) rfl (v := 11) rfl ?_
        refine g_bipush W280 dP0_185 (pc' := 187) rfl (v := 116) rfl ?_
        refine g_castore W280 dP0_187 (pc' := 188) rfl A279 (i := 11) rfl (by decide) (by first | decide | simp) (y := (116 : Int32)) (by decide) (vs' := [(.int (112 : Int32)), (.int (117 : Int32)), (.int (98 : Int32)), (.int (108 : Int32)), (.int (105 : Int32)), (.int (115 : Int32)), (.int (104 : Int32)), (.int (101 : Int32)), (.int (100 : Int32)), (.int (68 : Int32)), (.int (97 : Int32)), (.int (116 : Int32)), (.int (0 : Int32)), (.int (0 : Int32))]) rfl (by simp) (Or.inr na214) ?_
        intro T282 h283 w284 A285 W286
        have X287 : Ext h0 h283 := own_ext_wr X281 w284 (by rw [g215]; exact Nat.le_refl _)
        refine g_dup W286 dP0_188 (pc' := 189) rfl rfl ?_
        refine g_bipush W286 dP0_189 (pc' := 191) rfl (v := 12) rfl ?_
        refine g_bipush W286 dP0_191 (pc' := 193) rfl (v := 101) rfl ?_
        refine g_castore W286 dP0_193 (pc' := 194) rfl A285 (i := 12) rfl (by decide) (by first | decide | simp) (y := (101 : Int32)) (by decide) (vs' := [(.int (112 : Int32)), (.int (117 : Int32)), (.int (98 : Int32)), (.int (108 : Int32)), (.int (105 : Int32)), (.int (115 : Int32)), (.int (104 : Int32)), (.int (101 : Int32)), (.int (100 : Int32)), (.int (68 : Int32)), (.int (97 : Int32)), (.int (116 : Int32)), (.int (101 : Int32)), (.int (0 : Int32))]) rfl (by simp) (Or.inr na214) ?_
        intro T288 h289 w290 A291 W292
        have X293 : Ext h0 h289 := own_ext_wr X287 w290 (by rw [g215]; exact Nat.le_refl _)
        refine g_dup W292 dP0_194 (pc' := 195) rfl rfl ?_
        refine g_bipush W292 dP0_195 (pc' := 197) rfl (v := 13) rfl ?_
        refine g_iloadN W292 dP0_197 (pc' := 198) rfl rfl ?_
        refine g_castore W292 dP0_198 (pc' := 199) rfl A291 (i := 13) rfl (by decide) (by first | decide | simp) (y := (w &&& (255 : Int32))) (i2c_mask _) (vs' := [(.int (112 : Int32)), (.int (117 : Int32)), (.int (98 : Int32)), (.int (108 : Int32)), (.int (105 : Int32)), (.int (115 : Int32)), (.int (104 : Int32)), (.int (101 : Int32)), (.int (100 : Int32)), (.int (68 : Int32)), (.int (97 : Int32)), (.int (116 : Int32)), (.int (101 : Int32)), (.int (w &&& (255 : Int32)))]) rfl (by simp) (Or.inr na214) ?_
        intro T294 h295 w296 A297 W298
        have X299 : Ext h0 h295 := own_ext_wr X293 w296 (by rw [g215]; exact Nat.le_refl _)
        exact g_aret W298 dP0_199 rfl rfl rfl rfl ⟨a214, _, [(112 : Int32), (117 : Int32), (98 : Int32), (108 : Int32), (105 : Int32), (115 : Int32), (104 : Int32), (101 : Int32), (100 : Int32), (68 : Int32), (97 : Int32), (116 : Int32), (101 : Int32), (w &&& (255 : Int32))], rfl, X299, (by first | exact Nat.le_refl _ | exact Nat.le_of_eq g215.symm), by simp, by simp, (own_bc (by decide) (own_bc (by decide) (own_bc (by decide) (own_bc (by decide) (own_bc (by decide) (own_bc (by decide) (own_bc (by decide) (own_bc (by decide) (own_bc (by decide) (own_bc (by decide) (own_bc (by decide) (own_bc (by decide) (own_bc (by decide) (own_bc (own_b255 _) own_b0)))))))))))))), A297⟩
      · skip
        refine g_icY W0 dP0_115 (pc' := 200) (feq c207).2 (by decide) (by decide) ?_
        refine g_iloadN W0 dP0_200 (pc' := 201) rfl rfl ?_
        refine g_iconst W0 dP0_201 (pc' := 202) rfl (v := 2) rfl ?_
        by_cases c300 : md = (2 : Int32)
        · skip
          refine g_icN W0 dP0_202 (pc' := 205) (teq c300).2 rfl ?_
          refine g_bipush W0 dP0_205 (pc' := 207) rfl (v := 12) rfl ?_
          refine g_newP W0 dP0_207 (pc' := 209) (cap := 12) rfl (ty := .char) (dv := (.int 0)) rfl rfl (hw _ (List.mem_of_getElem? (i := 4) rfl)) (by decide) (by decide) (by decide) (by decide) (by decide) ?_
          intro T301 h302 cA303 E304 A305 W306
          obtain ⟨a307, g308⟩ : ∃ z, z = h0.size := ⟨_, rfl⟩
          rw [← g308] at A305 W306 ⊢
          have na307 : s.heap.size ≤ a307 := by rw [g308]; exact W0.grown
          refine g_dup W306 dP0_209 (pc' := 210) rfl rfl ?_
          refine g_iconst W306 dP0_210 (pc' := 211) rfl (v := 0) rfl ?_
          refine g_bipush W306 dP0_211 (pc' := 213) rfl (v := 112) rfl ?_
          refine g_castore W306 dP0_213 (pc' := 214) rfl (own_pad0 12 A305) (i := 0) rfl (by decide) (by first | decide | simp) (y := (112 : Int32)) (by decide) (vs' := [(.int (112 : Int32)), (.int (0 : Int32)), (.int (0 : Int32)), (.int (0 : Int32)), (.int (0 : Int32)), (.int (0 : Int32)), (.int (0 : Int32)), (.int (0 : Int32)), (.int (0 : Int32)), (.int (0 : Int32)), (.int (0 : Int32)), (.int (0 : Int32))]) rfl (by simp) (Or.inr na307) ?_
          intro T309 h310 w311 A312 W313
          have X314 : Ext h0 h310 := own_ext_wr E304 w311 (by rw [g308]; exact Nat.le_refl _)
          refine g_dup W313 dP0_214 (pc' := 215) rfl rfl ?_
          refine g_iconst W313 dP0_215 (pc' := 216) rfl (v := 1) rfl ?_
          refine g_bipush W313 dP0_216 (pc' := 218) rfl (v := 117) rfl ?_
          refine g_castore W313 dP0_218 (pc' := 219) rfl A312 (i := 1) rfl (by decide) (by first | decide | simp) (y := (117 : Int32)) (by decide) (vs' := [(.int (112 : Int32)), (.int (117 : Int32)), (.int (0 : Int32)), (.int (0 : Int32)), (.int (0 : Int32)), (.int (0 : Int32)), (.int (0 : Int32)), (.int (0 : Int32)), (.int (0 : Int32)), (.int (0 : Int32)), (.int (0 : Int32)), (.int (0 : Int32))]) rfl (by simp) (Or.inr na307) ?_
          intro T315 h316 w317 A318 W319
          have X320 : Ext h0 h316 := own_ext_wr X314 w317 (by rw [g308]; exact Nat.le_refl _)
          refine g_dup W319 dP0_219 (pc' := 220) rfl rfl ?_
          refine g_iconst W319 dP0_220 (pc' := 221) rfl (v := 2) rfl ?_
          refine g_bipush W319 dP0_221 (pc' := 223) rfl (v := 98) rfl ?_
          refine g_castore W319 dP0_223 (pc' := 224) rfl A318 (i := 2) rfl (by decide) (by first | decide | simp) (y := (98 : Int32)) (by decide) (vs' := [(.int (112 : Int32)), (.int (117 : Int32)), (.int (98 : Int32)), (.int (0 : Int32)), (.int (0 : Int32)), (.int (0 : Int32)), (.int (0 : Int32)), (.int (0 : Int32)), (.int (0 : Int32)), (.int (0 : Int32)), (.int (0 : Int32)), (.int (0 : Int32))]) rfl (by simp) (Or.inr na307) ?_
          intro T321 h322 w323 A324 W325
          have X326 : Ext h0 h322 := own_ext_wr X320 w323 (by rw [g308]; exact Nat.le_refl _)
          refine g_dup W325 dP0_224 (pc' := 225) rfl rfl ?_
          refine g_iconst W325 dP0_225 (pc' := 226) rfl (v := 3) rfl ?_
          refine g_bipush W325 dP0_226 (pc' := 228) rfl (v := 108) rfl ?_
          refine g_castore W325 dP0_228 (pc' := 229) rfl A324 (i := 3) rfl (by decide) (by first | decide | simp) (y := (108 : Int32)) (by decide) (vs' := [(.int (112 : Int32)), (.int (117 : Int32)), (.int (98 : Int32)), (.int (108 : Int32)), (.int (0 : Int32)), (.int (0 : Int32)), (.int (0 : Int32)), (.int (0 : Int32)), (.int (0 : Int32)), (.int (0 : Int32)), (.int (0 : Int32)), (.int (0 : Int32))]) rfl (by simp) (Or.inr na307) ?_
          intro T327 h328 w329 A330 W331
          have X332 : Ext h0 h328 := own_ext_wr X326 w329 (by rw [g308]; exact Nat.le_refl _)
          refine g_dup W331 dP0_229 (pc' := 230) rfl rfl ?_
          refine g_iconst W331 dP0_230 (pc' := 231) rfl (v := 4) rfl ?_
          refine g_bipush W331 dP0_231 (pc' := 233) rfl (v := 105) rfl ?_
          refine g_castore W331 dP0_233 (pc' := 234) rfl A330 (i := 4) rfl (by decide) (by first | decide | simp) (y := (105 : Int32)) (by decide) (vs' := [(.int (112 : Int32)), (.int (117 : Int32)), (.int (98 : Int32)), (.int (108 : Int32)), (.int (105 : Int32)), (.int (0 : Int32)), (.int (0 : Int32)), (.int (0 : Int32)), (.int (0 : Int32)), (.int (0 : Int32)), (.int (0 : Int32)), (.int (0 : Int32))]) rfl (by simp) (Or.inr na307) ?_
          intro T333 h334 w335 A336 W337
          have X338 : Ext h0 h334 := own_ext_wr X332 w335 (by rw [g308]; exact Nat.le_refl _)
          refine g_dup W337 dP0_234 (pc' := 235) rfl rfl ?_
          refine g_iconst W337 dP0_235 (pc' := 236) rfl (v := 5) rfl ?_
          refine g_bipush W337 dP0_236 (pc' := 238) rfl (v := 115) rfl ?_
          refine g_castore W337 dP0_238 (pc' := 239) rfl A336 (i := 5) rfl (by decide) (by first | decide | simp) (y := (115 : Int32)) (by decide) (vs' := [(.int (112 : Int32)), (.int (117 : Int32)), (.int (98 : Int32)), (.int (108 : Int32)), (.int (105 : Int32)), (.int (115 : Int32)), (.int (0 : Int32)), (.int (0 : Int32)), (.int (0 : Int32)), (.int (0 : Int32)), (.int (0 : Int32)), (.int (0 : Int32))]) rfl (by simp) (Or.inr na307) ?_
          intro T339 h340 w341 A342 W343
          have X344 : Ext h0 h340 := own_ext_wr X338 w341 (by rw [g308]; exact Nat.le_refl _)
          refine g_dup W343 dP0_239 (pc' := 240) rfl rfl ?_
          refine g_bipush W343 dP0_240 (pc' := 242) rfl (v := 6) rfl ?_
          refine g_bipush W343 dP0_242 (pc' := 244) rfl (v := 104) rfl ?_
          refine g_castore W343 dP0_244 (pc' := 245) rfl A342 (i := 6) rfl (by decide) (by first | decide | simp) (y := (104 : Int32)) (by decide) (vs' := [(.int (112 : Int32)), (.int (117 : Int32)), (.int (98 : Int32)), (.int (108 : Int32)), (.int (105 : Int32)), (.int (115 : Int32)), (.int (104 : Int32)), (.int (0 : Int32)), (.int (0 : Int32)), (.int (0 : Int32)), (.int (0 : Int32)), (.int (0 : Int32))]) rfl (by simp) (Or.inr na307) ?_
          intro T345 h346 w347 A348 W349
          have X350 : Ext h0 h346 := own_ext_wr X344 w347 (by rw [g308]; exact Nat.le_refl _)
          refine g_dup W349 dP0_245 (pc' := 246) rfl rfl ?_
          refine g_bipush W349 dP0_246 (pc' := 248) rfl (v := 7) rfl ?_
          refine g_bipush W349 dP0_248 (pc' := 250) rfl (v := 101) rfl ?_
          refine g_castore W349 dP0_250 (pc' := 251) rfl A348 (i := 7) rfl (by decide) (by first | decide | simp) (y := (101 : Int32)) (by decide) (vs' := [(.int (112 : Int32)), (.int (117 : Int32)), (.int (98 : Int32)), (.int (108 : Int32)), (.int (105 : Int32)), (.int (115 : Int32)), (.int (104 : Int32)), (.int (101 : Int32)), (.int (0 : Int32)), (.int (0 : Int32)), (.int (0 : Int32)), (.int (0 : Int32))]) rfl (by simp) (Or.inr na307) ?_
          intro T351 h352 w353 A354 W355
          have X356 : Ext h0 h352 := own_ext_wr X350 w353 (by rw [g308]; exact Nat.le_refl _)
          refine g_dup W355 dP0_251 (pc' := 252) rfl rfl ?_
          refine g_bipush W355 dP0_252 (pc' := 254) rfl (v := 8) rfl ?_
          refine g_bipush W355 dP0_254 (pc' := 256) rfl (v := 100) rfl ?_
          refine g_castore W355 dP0_256 (pc' := 257) rfl A354 (i := 8) rfl (by decide) (by first | decide | simp) (y := (100 : Int32)) (by decide) (vs' := [(.int (112 : Int32)), (.int (117 : Int32)), (.int (98 : Int32)), (.int (108 : Int32)), (.int (105 : Int32)), (.int (115 : Int32)), (.int (104 : Int32)), (.int (101 : Int32)), (.int (100 : Int32)), (.int (0 : Int32)), (.int (0 : Int32)), (.int (0 : Int32))]) rfl (by simp) (Or.inr na307) ?_
          intro T357 h358 w359 A360 W361
          have X362 : Ext h0 h358 := own_ext_wr X356 w359 (by rw [g308]; exact Nat.le_refl _)
          refine g_dup W361 dP0_257 (pc' := 258) rfl rfl ?_
          refine g_bipush W361 dP0_258 (pc' := 260) rfl (v := 9) rfl ?_
          refine g_bipush W361 dP0_260 (pc' := 262) rfl (v := 68) rfl ?_
          refine g_castore W361 dP0_262 (pc' := 263) rfl A360 (i := 9) rfl (by decide) (by first | decide | simp) (y := (68 : Int32)) (by decide) (vs' := [(.int (112 : Int32)), (.int (117 : Int32)), (.int (98 : Int32)), (.int (108 : Int32)), (.int (105 : Int32)), (.int (115 : Int32)), (.int (104 : Int32)), (.int (101 : Int32)), (.int (100 : Int32)), (.int (68 : Int32)), (.int (0 : Int32)), (.int (0 : Int32))]) rfl (by simp) (Or.inr na307) ?_
          intro T363 h364 w365 A366 W367
          have X368 : Ext h0 h364 := own_ext_wr X362 w365 (by rw [g308]; exact Nat.le_refl _)
          refine g_dup W367 dP0_263 (pc' := 264) rfl rfl ?_
          refine g_bipush W367 dP0_264 (pc' := 266) rfl (v := 10) rfl ?_
          refine g_bipush W367 dP0_266 (pc' := 268) rfl (v := 97) rfl ?_
          refine g_castore W367 dP0_268 (pc' := 269) rfl A366 (i := 10) rfl (by decide) (by first | decide | simp) (y := (97 : Int32)) (by decide) (vs' := [(.int (112 : Int32)), (.int (117 : Int32)), (.int (98 : Int32)), (.int (108 : Int32)), (.int (105 : Int32)), (.int (115 : Int32)), (.int (104 : Int32)), (.int (101 : Int32)), (.int (100 : Int32)), (.int (68 : Int32)), (.int (97 : Int32)), (.int (0 : Int32))]) rfl (by simp) (Or.inr na307) ?_
          intro T369 h370 w371 A372 W373
          have X374 : Ext h0 h370 := own_ext_wr X368 w371 (by rw [g308]; exact Nat.le_refl _)
          refine g_dup W373 dP0_269 (pc' := 270) rfl rfl ?_
          refine g_bipush W373 dP0_270 (pc' := 272) rfl (v := 11) rfl ?_
          refine g_bipush W373 dP0_272 (pc' := 274) rfl (v := 116) rfl ?_
          refine g_castore W373 dP0_274 (pc' := 275) rfl A372 (i := 11) rfl (by decide) (by first | decide | simp) (y := (116 : Int32)) (by decide) (vs' := [(.int (112 : Int32)), (.int (117 : Int32)), (.int (98 : Int32)), (.int (108 : Int32)), (.int (105 : Int32)), (.int (115 : Int32)), (.int (104 : Int32)), (.int (101 : Int32)), (.int (100 : Int32)), (.int (68 : Int32)), (.int (97 : Int32)), (.int (116 : Int32))]) rfl (by simp) (Or.inr na307) ?_
          intro T375 h376 w377 A378 W379
          have X380 : Ext h0 h376 := own_ext_wr X374 w377 (by rw [g308]; exact Nat.le_refl _)
          exact g_aret W379 dP0_275 rfl rfl rfl rfl ⟨a307, _, [(112 : Int32), (117 : Int32), (98 : Int32), (108 : Int32), (105 : Int32), (115 : Int32), (104 : Int32), (101 : Int32), (100 : Int32), (68 : Int32), (97 : Int32), (116 : Int32)], rfl, X380, (by first | exact Nat.le_refl _ | exact Nat.le_of_eq g308.symm), by simp, by simp, (own_bc (by decide) (own_bc (by decide) (own_bc (by decide) (own_bc (by decide) (own_bc (by decide) (own_bc (by decide) (own_bc (by decide) (own_bc (by decide) (own_bc (by decide) (own_bc (by decide) (own_bc (by decide) (own_bc (by decide) own_b0)))))))))))), A378⟩
        · skip
          refine g_icY W0 dP0_202 (pc' := 276) (feq c300).2 (by decide) (by decide) ?_
          refine g_bipush W0 dP0_276 (pc' := 278) rfl (v := 13) rfl ?_
          refine g_newP W0 dP0_278 (pc' := 280) (cap := 13) rfl (ty := .char) (dv := (.int 0)) rfl rfl (hw _ (List.mem_of_getElem? (i := 4) rfl)) (by decide) (by decide) (by decide) (by decide) (by decide) ?_
          intro T381 h382 cA383 E384 A385 W386
          obtain ⟨a387, g388⟩ : ∃ z, z = h0.size := ⟨_, rfl⟩
          rw [← g388] at A385 W386 ⊢
          have na387 : s.heap.size ≤ a387 := by rw [g388]; exact W0.grown
          refine g_dup W386 dP0_280 (pc' := 281) rfl rfl ?_
          refine g_iconst W386 dP0_281 (pc' := 282) rfl (v := 0) rfl ?_
          refine g_bipush W386 dP0_282 (pc' := 284) rfl (v := 112) rfl ?_
          refine g_castore W386 dP0_284 (pc' := 285) rfl (own_pad0 13 A385) (i := 0) rfl (by decide) (by first | decide | simp) (y := (112 : Int32)) (by decide) (vs' := [(.int (112 : Int32)), (.int (0 : Int32)), (.int (0 : Int32)), (.int (0 : Int32)), (.int (0 : Int32)), (.int (0 : Int32)), (.int (0 : Int32)), (.int (0 : Int32)), (.int (0 : Int32)), (.int (0 : Int32)), (.int (0 : Int32)), (.int (0 : Int32)), (.int (0 : Int32))]) rfl (by simp) (Or.inr na387) ?_
          intro T389 h390 w391 A392 W393
          have X394 : Ext h0 h390 := own_ext_wr E384 w391 (by rw [g388]; exact Nat.le_refl _)
          refine g_dup W393 dP0_285 (pc' := 286) rfl rfl ?_
          refine g_iconst W393 dP0_286 (pc' := 287) rfl (v := 1) rfl ?_
          refine g_bipush W393 dP0_287 (pc' := 289) rfl (v := 117) rfl ?_
          refine g_castore W393 dP0_289 (pc' := 290) rfl A392 (i := 1) rfl (by decide) (by first | decide | simp) (y := (117 : Int32)) (by decide) (vs' := [(.int (112 : Int32)), (.int (117 : Int32)), (.int (0 : Int32)), (.int (0 : Int32)), (.int (0 : Int32)), (.int (0 : Int32)), (.int (0 : Int32)), (.int (0 : Int32)), (.int (0 : Int32)), (.int (0 : Int32)), (.int (0 : Int32)), (.int (0 : Int32)), (.int (0 : Int32))]) rfl (by simp) (Or.inr na387) ?_
          intro T395 h396 w397 A398 W399
          have X400 : Ext h0 h396 := own_ext_wr X394 w397 (by rw [g388]; exact Nat.le_refl _)
          refine g_dup W399 dP0_290 (pc' := 291) rfl rfl ?_
          refine g_iconst W399 dP0_291 (pc' := 292) rfl (v := 2) rfl ?_
          refine g_bipush W399 dP0_292 (pc' := 294) rfl (v := 98) rfl ?_
          refine g_castore W399 dP0_294 (pc' := 295) rfl A398 (i := 2) rfl (by decide) (by first | decide | simp) (y := (98 : Int32)) (by decide) (vs' := [(.int (112 : Int32)), (.int (117 : Int32)), (.int (98 : Int32)), (.int (0 : Int32)), (.int (0 : Int32)), (.int (0 : Int32)), (.int (0 : Int32)), (.int (0 : Int32)), (.int (0 : Int32)), (.int (0 : Int32)), (.int (0 : Int32)), (.int (0 : Int32)), (.int (0 : Int32))]) rfl (by simp) (Or.inr na387) ?_
          intro T401 h402 w403 A404 W405
          have X406 : Ext h0 h402 := own_ext_wr X400 w403 (by rw [g388]; exact Nat.le_refl _)
          refine g_dup W405 dP0_295 (pc' := 296) rfl rfl ?_
          refine g_iconst W405 dP0_296 (pc' := 297) rfl (v := 3) rfl ?_
          refine g_bipush W405 dP0_297 (pc' := 299) rfl (v := 108) rfl ?_
          refine g_castore W405 dP0_299 (pc' := 300) rfl A404 (i := 3) rfl (by decide) (by first | decide | simp) (y := (108 : Int32)) (by decide) (vs' := [(.int (112 : Int32)), (.int (117 : Int32)), (.int (98 : Int32)), (.int (108 : Int32)), (.int (0 : Int32)), (.int (0 : Int32)), (.int (0 : Int32)), (.int (0 : Int32)), (.int (0 : Int32)), (.int (0 : Int32)), (.int (0 : Int32)), (.int (0 : Int32)), (.int (0 : Int32))]) rfl (by simp) (Or.inr na387) ?_
          intro T407 h408 w409 A410 W411
          have X412 : Ext h0 h408 := own_ext_wr X406 w409 (by rw [g388]; exact Nat.le_refl _)
          refine g_dup W411 dP0_300 (pc' := 301) rfl rfl ?_
          refine g_iconst W411 dP0_301 (pc' := 302) rfl (v := 4) rfl ?_
          refine g_bipush W411 dP0_302 (pc' := 304) rfl (v := 105) rfl ?_
          refine g_castore W411 dP0_304 (pc' := 305) rfl A410 (i := 4) rfl (by decide) (by first | decide | simp) (y := (105 : Int32)) (by decide) (vs' := [(.int (112 : Int32)), (.int (117 : Int32)), (.int (98 : Int32)), (.int (108 : Int32)), (.int (105 : Int32)), (.int (0 : Int32)), (.int (0 : Int32)), (.int (0 : Int32)), (.int (0 : Int32)), (.int (0 : Int32)), (.int (0 : Int32)), (.int (0 : Int32)), (.int (0 : Int32))]) rfl (by simp) (Or.inr na387) ?_
          intro T413 h414 w415 A416 W417
          have X418 : Ext h0 h414 := own_ext_wr X412 w415 (by rw [g388]; exact Nat.le_refl _)
          refine g_dup W417 dP0_305 (pc' := 306) rfl rfl ?_
          refine g_iconst W417 dP0_306 (pc' := 307) rfl (v := 5) rfl ?_
          refine g_bipush W417 dP0_307 (pc' := 309) rfl (v := 115) rfl ?_
          refine g_castore W417 dP0_309 (pc' := 310) rfl A416 (i := 5) rfl (by decide) (by first | decide | simp) (y := (115 : Int32)) (by decide) (vs' := [(.int (112 : Int32)), (.int (117 : Int32)), (.int (98 : Int32)), (.int (108 : Int32)), (.int (105 : Int32)), (.int (115 : Int32)), (.int (0 : Int32)), (.int (0 : Int32)), (.int (0 : Int32)), (.int (0 : Int32)), (.int (0 : Int32)), (.int (0 : Int32)), (.int (0 : Int32))]) rfl (by simp) (Or.inr na387) ?_
          intro T419 h420 w421 A422 W423
          have X424 : Ext h0 h420 := own_ext_wr X418 w421 (by rw [g388]; exact Nat.le_refl _)
          refine g_dup W423 dP0_310 (pc' := 311) rfl rfl ?_
          refine g_bipush W423 dP0_311 (pc' := 313) rfl (v := 6) rfl ?_
          refine g_bipush W423 dP0_313 (pc' := 315) rfl (v := 104) rfl ?_
          refine g_castore W423 dP0_315 (pc' := 316) rfl A422 (i := 6) rfl (by decide) (by first | decide | simp) (y := (104 : Int32)) (by decide) (vs' := [(.int (112 : Int32)), (.int (117 : Int32)), (.int (98 : Int32)), (.int (108 : Int32)), (.int (105 : Int32)), (.int (115 : Int32)), (.int (104 : Int32)), (.int (0 : Int32)), (.int (0 : Int32)), (.int (0 : Int32)), (.int (0 : Int32)), (.int (0 : Int32)), (.int (0 : Int32))]) rfl (by simp) (Or.inr na387) ?_
          intro T425 h426 w427 A428 W429
          have X430 : Ext h0 h426 := own_ext_wr X424 w427 (by rw [g388]; exact Nat.le_refl _)
          refine g_dup W429 dP0_316 (pc' := 317) rfl rfl ?_
          refine g_bipush W429 dP0_317 (pc' := 319) rfl (v := 7) rfl ?_
          refine g_bipush W429 dP0_319 (pc' := 321) rfl (v := 101) rfl ?_
          refine g_castore W429 dP0_321 (pc' := 322) rfl A428 (i := 7) rfl (by decide) (by first | decide | simp) (y := (101 : Int32)) (by decide) (vs' := [(.int (112 : Int32)), (.int (117 : Int32)), (.int (98 : Int32)), (.int (108 : Int32)), (.int (105 : Int32)), (.int (115 : Int32)), (.int (104 : Int32)), (.int (101 : Int32)), (.int (0 : Int32)), (.int (0 : Int32)), (.int (0 : Int32)), (.int (0 : Int32)), (.int (0 : Int32))]) rfl (by simp) (Or.inr na387) ?_
          intro T431 h432 w433 A434 W435
          have X436 : Ext h0 h432 := own_ext_wr X430 w433 (by rw [g388]; exact Nat.le_refl _)
          refine g_dup W435 dP0_322 (pc' := 323) rfl rfl ?_
          refine g_bipush W435 dP0_323 (pc' := 325) rfl (v := 8) rfl ?_
          refine g_bipush W435 dP0_325 (pc' := 327) rfl (v := 100) rfl ?_
          refine g_castore W435 dP0_327 (pc' := 328) rfl A434 (i := 8) rfl (by decide) (by first | decide | simp) (y := (100 : Int32)) (by decide) (vs' := [(.int (112 : Int32)), (.int (117 : Int32)), (.int (98 : Int32)), (.int (108 : Int32)), (.int (105 : Int32)), (.int (115 : Int32)), (.int (104 : Int32)), (.int (101 : Int32)), (.int (100 : Int32)), (.int (0 : Int32)), (.int (0 : Int32)), (.int (0 : Int32)), (.int (0 : Int32))]) rfl (by simp) (Or.inr na387) ?_
          intro T437 h438 w439 A440 W441
          have X442 : Ext h0 h438 := own_ext_wr X436 w439 (by rw [g388]; exact Nat.le_refl _)
          refine g_dup W441 dP0_328 (pc' := 329) rfl rfl ?_
          refine g_bipush W441 dP0_329 (pc' := 331) rfl (v := 9) rfl ?_
          refine g_bipush W441 dP0_331 (pc' := 333) rfl (v := 68) rfl ?_
          refine g_castore W441 dP0_333 (pc' := 334) rfl A440 (i := 9) rfl (by decide) (by first | decide | simp) (y := (68 : Int32)) (by decide) (vs' := [(.int (112 : Int32)), (.int (117 : Int32)), (.int (98 : Int32)), (.int (108 : Int32)), (.int (105 : Int32)), (.int (115 : Int32)), (.int (104 : Int32)), (.int (101 : Int32)), (.int (100 : Int32)), (.int (68 : Int32)), (.int (0 : Int32)), (.int (0 : Int32)), (.int (0 : Int32))]) rfl (by simp) (Or.inr na387) ?_
          intro T443 h444 w445 A446 W447
          have X448 : Ext h0 h444 := own_ext_wr X442 w445 (by rw [g388]; exact Nat.le_refl _)
          refine g_dup W447 dP0_334 (pc' := 335) rfl rfl ?_
          refine g_bipush W447 dP0_335 (pc' := 337) rfl (v := 10) rfl ?_
          refine g_bipush W447 dP0_337 (pc' := 339) rfl (v := 97) rfl ?_
          refine g_castore W447 dP0_339 (pc' := 340) rfl A446 (i := 10) rfl (by decide) (by first | decide | simp) (y := (97 : Int32)) (by decide) (vs' := [(.int (112 : Int32)), (.int (117 : Int32)), (.int (98 : Int32)), (.int (108 : Int32)), (.int (105 : Int32)), (.int (115 : Int32)), (.int (104 : Int32)), (.int (101 : Int32)), (.int (100 : Int32)), (.int (68 : Int32)), (.int (97 : Int32)), (.int (0 : Int32)), (.int (0 : Int32))]) rfl (by simp) (Or.inr na387) ?_
          intro T449 h450 w451 A452 W453
          have X454 : Ext h0 h450 := own_ext_wr X448 w451 (by rw [g388]; exact Nat.le_refl _)
          refine g_dup W453 dP0_340 (pc' := 341) rfl rfl ?_
          refine g_bipush W453 dP0_341 (pc' := 343) rfl (v := 11) rfl ?_
          refine g_bipush W453 dP0_343 (pc' := 345) rfl (v := 116) rfl ?_
          refine g_castore W453 dP0_345 (pc' := 346) rfl A452 (i := 11) rfl (by decide) (by first | decide | simp) (y := (116 : Int32)) (by decide) (vs' := [(.int (112 : Int32)), (.int (117 : Int32)), (.int (98 : Int32)), (.int (108 : Int32)), (.int (105 : Int32)), (.int (115 : Int32)), (.int (104 : Int32)), (.int (101 : Int32)), (.int (100 : Int32)), (.int (68 : Int32)), (.int (97 : Int32)), (.int (116 : Int32)), (.int (0 : Int32))]) rfl (by simp) (Or.inr na387) ?_
          intro T455 h456 w457 A458 W459
          have X460 : Ext h0 h456 := own_ext_wr X454 w457 (by rw [g388]; exact Nat.le_refl _)
          refine g_dup W459 dP0_346 (pc' := 347) rfl rfl ?_
          refine g_bipush W459 dP0_347 (pc' := 349) rfl (v := 12) rfl ?_
          refine g_bipush W459 dP0_349 (pc' := 351) rfl (v := 101) rfl ?_
          refine g_castore W459 dP0_351 (pc' := 352) rfl A458 (i := 12) rfl (by decide) (by first | decide | simp) (y := (101 : Int32)) (by decide) (vs' := [(.int (112 : Int32)), (.int (117 : Int32)), (.int (98 : Int32)), (.int (108 : Int32)), (.int (105 : Int32)), (.int (115 : Int32)), (.int (104 : Int32)), (.int (101 : Int32)), (.int (100 : Int32)), (.int (68 : Int32)), (.int (97 : Int32)), (.int (116 : Int32)), (.int (101 : Int32))]) rfl (by simp) (Or.inr na387) ?_
          intro T461 h462 w463 A464 W465
          have X466 : Ext h0 h462 := own_ext_wr X460 w463 (by rw [g388]; exact Nat.le_refl _)
          exact g_aret W465 dP0_352 rfl rfl rfl rfl ⟨a387, _, [(112 : Int32), (117 : Int32), (98 : Int32), (108 : Int32), (105 : Int32), (115 : Int32), (104 : Int32), (101 : Int32), (100 : Int32), (68 : Int32), (97 : Int32), (116 : Int32), (101 : Int32)], rfl, X466, (by first | exact Nat.le_refl _ | exact Nat.le_of_eq g388.symm), by simp, by simp, (own_bc (by decide) (own_bc (by decide) (own_bc (by decide) (own_bc (by decide) (own_bc (by decide) (own_bc (by decide) (own_bc (by decide) (own_bc (by decide) (own_bc (by decide) (own_bc (by decide) (own_bc (by decide) (own_bc (by decide) (own_bc (by decide) own_b0))))))))))))), A464⟩
    · skip
      refine g_icY W0 dP0_110 (pc' := 353) (feq c206).2 (by decide) (by decide) ?_
      refine g_iloadN W0 dP0_353 (pc' := 354) rfl rfl ?_
      refine g_iconst W0 dP0_354 (pc' := 355) rfl (v := 1) rfl ?_
      by_cases c467 : md = (1 : Int32)
      · skip
        refine g_icN W0 dP0_355 (pc' := 358) (teq c467).2 rfl ?_
        refine g_bipush W0 dP0_358 (pc' := 360) rfl (v := 16) rfl ?_
        refine g_newP W0 dP0_360 (pc' := 362) (cap := 16) rfl (ty := .char) (dv := (.int 0)) rfl rfl (hw _ (List.mem_of_getElem? (i := 4) rfl)) (by decide) (by decide) (by decide) (by decide) (by decide) ?_
        intro T468 h469 cA470 E471 A472 W473
        obtain ⟨a474, g475⟩ : ∃ z, z = h0.size := ⟨_, rfl⟩
        rw [← g475] at A472 W473 ⊢
        have na474 : s.heap.size ≤ a474 := by rw [g475]; exact W0.grown
        refine g_dup W473 dP0_362 (pc' := 363) rfl rfl ?_
        refine g_iconst W473 dP0_363 (pc' := 364) rfl (v := 0) rfl ?_
        refine g_bipush W473 dP0_364 (pc' := 366) rfl (v := 97) rfl ?_
        refine g_castore W473 dP0_366 (pc' := 367) rfl (own_pad0 16 A472) (i := 0) rfl (by decide) (by first | decide | simp) (y := (97 : Int32)) (by decide) (vs' := [(.int (97 : Int32)), (.int (0 : Int32)), (.int (0 : Int32)), (.int (0 : Int32)), (.int (0 : Int32)), (.int (0 : Int32)), (.int (0 : Int32)), (.int (0 : Int32)), (.int (0 : Int32)), (.int (0 : Int32)), (.int (0 : Int32)), (.int (0 : Int32)), (.int (0 : Int32)), (.int (0 : Int32)), (.int (0 : Int32)), (.int (0 : Int32))]) rfl (by simp) (Or.inr na474) ?_
        intro T476 h477 w478 A479 W480
        have X481 : Ext h0 h477 := own_ext_wr E471 w478 (by rw [g475]; exact Nat.le_refl _)
        refine g_dup W480 dP0_367 (pc' := 368) rfl rfl ?_
        refine g_iconst W480 dP0_368 (pc' := 369) rfl (v := 1) rfl ?_
        refine g_bipush W480 dP0_369 (pc' := 371) rfl (v := 118) rfl ?_
        refine g_castore W480 dP0_371 (pc' := 372) rfl A479 (i := 1) rfl (by decide) (by first | decide | simp) (y := (118 : Int32)) (by decide) (vs' := [(.int (97 : Int32)), (.int (118 : Int32)), (.int (0 : Int32)), (.int (0 : Int32)), (.int (0 : Int32)), (.int (0 : Int32)), (.int (0 : Int32)), (.int (0 : Int32)), (.int (0 : Int32)), (.int (0 : Int32)), (.int (0 : Int32)), (.int (0 : Int32)), (.int (0 : Int32)), (.int (0 : Int32)), (.int (0 : Int32)), (.int (0 : Int32))]) rfl (by simp) (Or.inr na474) ?_
        intro T482 h483 w484 A485 W486
        have X487 : Ext h0 h483 := own_ext_wr X481 w484 (by rw [g475]; exact Nat.le_refl _)
        refine g_dup W486 dP0_372 (pc' := 373) rfl rfl ?_
        refine g_iconst W486 dP0_373 (pc' := 374) rfl (v := 2) rfl ?_
        refine g_bipush W486 dP0_374 (pc' := 376) rfl (v := 97) rfl ?_
        refine g_castore W486 dP0_376 (pc' := 377) rfl A485 (i := 2) rfl (by decide) (by first | decide | simp) (y := (97 : Int32)) (by decide) (vs' := [(.int (97 : Int32)), (.int (118 : Int32)), (.int (97 : Int32)), (.int (0 : Int32)), (.int (0 : Int32)), (.int (0 : Int32)), (.int (0 : Int32)), (.int (0 : Int32)), (.int (0 : Int32)), (.int (0 : Int32)), (.int (0 : Int32)), (.int (0 : Int32)), (.int (0 : Int32)), (.int (0 : Int32)), (.int (0 : Int32)), (.int (0 : Int32))]) rfl (by simp) (Or.inr na474) ?_
        intro T488 h489 w490 A491 W492
        have X493 : Ext h0 h489 := own_ext_wr X487 w490 (by rw [g475]; exact Nat.le_refl _)
        refine g_dup W492 dP0_377 (pc' := 378) rfl rfl ?_
        refine g_iconst W492 dP0_378 (pc' := 379) rfl (v := 3) rfl ?_
        refine g_bipush W492 dP0_379 (pc' := 381) rfl (v := 105) rfl ?_
        refine g_castore W492 dP0_381 (pc' := 382) rfl A491 (i := 3) rfl (by decide) (by first | decide | simp) (y := (105 : Int32)) (by decide) (vs' := [(.int (97 : Int32)), (.int (118 : Int32)), (.int (97 : Int32)), (.int (105 : Int32)), (.int (0 : Int32)), (.int (0 : Int32)), (.int (0 : Int32)), (.int (0 : Int32)), (.int (0 : Int32)), (.int (0 : Int32)), (.int (0 : Int32)), (.int (0 : Int32)), (.int (0 : Int32)), (.int (0 : Int32)), (.int (0 : Int32)), (.int (0 : Int32))]) rfl (by simp) (Or.inr na474) ?_
        intro T494 h495 w496 A497 W498
        have X499 : Ext h0 h495 := own_ext_wr X493 w496 (by rw [g475]; exact Nat.le_refl _)
        refine g_dup W498 dP0_382 (pc' := 383) rfl rfl ?_
        refine g_iconst W498 dP0_383 (pc' := 384) rfl (v := 4) rfl ?_
        refine g_bipush W498 dP0_384 (pc' := 386) rfl (v := 108) rfl ?_
        refine g_castore W498 dP0_386 (pc' := 387) rfl A497 (i := 4) rfl (by decide) (by first | decide | simp) (y := (108 : Int32)) (by decide) (vs' := [(.int (97 : Int32)), (.int (118 : Int32)), (.int (97 : Int32)), (.int (105 : Int32)), (.int (108 : Int32)), (.int (0 : Int32)), (.int (0 : Int32)), (.int (0 : Int32)), (.int (0 : Int32)), (.int (0 : Int32)), (.int (0 : Int32)), (.int (0 : Int32)), (.int (0 : Int32)), (.int (0 : Int32)), (.int (0 : Int32)), (.int (0 : Int32))]) rfl (by simp) (Or.inr na474) ?_
        intro T500 h501 w502 A503 W504
        have X505 : Ext h0 h501 := own_ext_wr X499 w502 (by rw [g475]; exact Nat.le_refl _)
        refine g_dup W504 dP0_387 (pc' := 388) rfl rfl ?_
        refine g_iconst W504 dP0_388 (pc' := 389) rfl (v := 5) rfl ?_
        refine g_bipush W504 dP0_389 (pc' := 391) rfl (v := 97) rfl ?_
        refine g_castore W504 dP0_391 (pc' := 392) rfl A503 (i := 5) rfl (by decide) (by first | decide | simp) (y := (97 : Int32)) (by decide) (vs' := [(.int (97 : Int32)), (.int (118 : Int32)), (.int (97 : Int32)), (.int (105 : Int32)), (.int (108 : Int32)), (.int (97 : Int32)), (.int (0 : Int32)), (.int (0 : Int32)), (.int (0 : Int32)), (.int (0 : Int32)), (.int (0 : Int32)), (.int (0 : Int32)), (.int (0 : Int32)), (.int (0 : Int32)), (.int (0 : Int32)), (.int (0 : Int32))]) rfl (by simp) (Or.inr na474) ?_
        intro T506 h507 w508 A509 W510
        have X511 : Ext h0 h507 := own_ext_wr X505 w508 (by rw [g475]; exact Nat.le_refl _)
        refine g_dup W510 dP0_392 (pc' := 393) rfl rfl ?_
        refine g_bipush W510 dP0_393 (pc' := 395) rfl (v := 6) rfl ?_
        refine g_bipush W510 dP0_395 (pc' := 397) rfl (v := 98) rfl ?_
        refine g_castore W510 dP0_397 (pc' := 398) rfl A509 (i := 6) rfl (by decide) (by first | decide | simp) (y := (98 : Int32)) (by decide) (vs' := [(.int (97 : Int32)), (.int (118 : Int32)), (.int (97 : Int32)), (.int (105 : Int32)), (.int (108 : Int32)), (.int (97 : Int32)), (.int (98 : Int32)), (.int (0 : Int32)), (.int (0 : Int32)), (.int (0 : Int32)), (.int (0 : Int32)), (.int (0 : Int32)), (.int (0 : Int32)), (.int (0 : Int32)), (.int (0 : Int32)), (.int (0 : Int32))]) rfl (by simp) (Or.inr na474) ?_
        intro T512 h513 w514 A515 W516
        have X517 : Ext h0 h513 := own_ext_wr X511 w514 (by rw [g475]; exact Nat.le_refl _)
        refine g_dup W516 dP0_398 (pc' := 399) rfl rfl ?_
        refine g_bipush W516 dP0_399 (pc' := 401) rfl (v := 7) rfl ?_
        refine g_bipush W516 dP0_401 (pc' := 403) rfl (v := 108) rfl ?_
        refine g_castore W516 dP0_403 (pc' := 404) rfl A515 (i := 7) rfl (by decide) (by first | decide | simp) (y := (108 : Int32)) (by decide) (vs' := [(.int (97 : Int32)), (.int (118 : Int32)), (.int (97 : Int32)), (.int (105 : Int32)), (.int (108 : Int32)), (.int (97 : Int32)), (.int (98 : Int32)), (.int (108 : Int32)), (.int (0 : Int32)), (.int (0 : Int32)), (.int (0 : Int32)), (.int (0 : Int32)), (.int (0 : Int32)), (.int (0 : Int32)), (.int (0 : Int32)), (.int (0 : Int32))]) rfl (by simp) (Or.inr na474) ?_
        intro T518 h519 w520 A521 W522
        have X523 : Ext h0 h519 := own_ext_wr X517 w520 (by rw [g475]; exact Nat.le_refl _)
        refine g_dup W522 dP0_404 (pc' := 405) rfl rfl ?_
        refine g_bipush W522 dP0_405 (pc' := 407) rfl (v := 8) rfl ?_
        refine g_bipush W522 dP0_407 (pc' := 409) rfl (v := 101) rfl ?_
        refine g_castore W522 dP0_409 (pc' := 410) rfl A521 (i := 8) rfl (by decide) (by first | decide | simp) (y := (101 : Int32)) (by decide) (vs' := [(.int (97 : Int32)), (.int (118 : Int32)), (.int (97 : Int32)), (.int (105 : Int32)), (.int (108 : Int32)), (.int (97 : Int32)), (.int (98 : Int32)), (.int (108 : Int32)), (.int (101 : Int32)), (.int (0 : Int32)), (.int (0 : Int32)), (.int (0 : Int32)), (.int (0 : Int32)), (.int (0 : Int32)), (.int (0 : Int32)), (.int (0 : Int32))]) rfl (by simp) (Or.inr na474) ?_
        intro T524 h525 w526 A527 W528
        have X529 : Ext h0 h525 := own_ext_wr X523 w526 (by rw [g475]; exact Nat.le_refl _)
        refine g_dup W528 dP0_410 (pc' := 411) rfl rfl ?_
        refine g_bipush W528 dP0_411 (pc' := 413) rfl (v := 9) rfl ?_
        refine g_bipush W528 dP0_413 (pc' := 415) rfl (v := 67) rfl ?_
        refine g_castore W528 dP0_415 (pc' := 416) rfl A527 (i := 9) rfl (by decide) (by first | decide | simp) (y := (67 : Int32)) (by decide) (vs' := [(.int (97 : Int32)), (.int (118 : Int32)), (.int (97 : Int32)), (.int (105 : Int32)), (.int (108 : Int32)), (.int (97 : Int32)), (.int (98 : Int32)), (.int (108 : Int32)), (.int (101 : Int32)), (.int (67 : Int32)), (.int (0 : Int32)), (.int (0 : Int32)), (.int (0 : Int32)), (.int (0 : Int32)), (.int (0 : Int32)), (.int (0 : Int32))]) rfl (by simp) (Or.inr na474) ?_
        intro T530 h531 w532 A533 W534
        have X535 : Ext h0 h531 := own_ext_wr X529 w532 (by rw [g475]; exact Nat.le_refl _)
        refine g_dup W534 dP0_416 (pc' := 417) rfl rfl ?_
        refine g_bipush W534 dP0_417 (pc' := 419) rfl (v := 10) rfl ?_
        refine g_bipush W534 dP0_419 (pc' := 421) rfl (v := 111) rfl ?_
        refine g_castore W534 dP0_421 (pc' := 422) rfl A533 (i := 10) rfl (by decide) (by first | decide | simp) (y := (111 : Int32)) (by decide) (vs' := [(.int (97 : Int32)), (.int (118 : Int32)), (.int (97 : Int32)), (.int (105 : Int32)), (.int (108 : Int32)), (.int (97 : Int32)), (.int (98 : Int32)), (.int (108 : Int32)), (.int (101 : Int32)), (.int (67 : Int32)), (.int (111 : Int32)), (.int (0 : Int32)), (.int (0 : Int32)), (.int (0 : Int32)), (.int (0 : Int32)), (.int (0 : Int32))]) rfl (by simp) (Or.inr na474) ?_
        intro T536 h537 w538 A539 W540
        have X541 : Ext h0 h537 := own_ext_wr X535 w538 (by rw [g475]; exact Nat.le_refl _)
        refine g_dup W540 dP0_422 (pc' := 423) rfl rfl ?_
        refine g_bipush W540 dP0_423 (pc' := 425) rfl (v := 11) rfl ?_
        refine g_bipush W540 dP0_425 (pc' := 427) rfl (v := 112) rfl ?_
        refine g_castore W540 dP0_427 (pc' := 428) rfl A539 (i := 11) rfl (by decide) (by first | decide | simp) (y := (112 : Int32)) (by decide) (vs' := [(.int (97 : Int32)), (.int (118 : Int32)), (.int (97 : Int32)), (.int (105 : Int32)), (.int (108 : Int32)), (.int (97 : Int32)), (.int (98 : Int32)), (.int (108 : Int32)), (.int (101 : Int32)), (.int (67 : Int32)), (.int (111 : Int32)), (.int (112 : Int32)), (.int (0 : Int32)), (.int (0 : Int32)), (.int (0 : Int32)), (.int (0 : Int32))]) rfl (by simp) (Or.inr na474) ?_
        intro T542 h543 w544 A545 W546
        have X547 : Ext h0 h543 := own_ext_wr X541 w544 (by rw [g475]; exact Nat.le_refl _)
        refine g_dup W546 dP0_428 (pc' := 429) rfl rfl ?_
        refine g_bipush W546 dP0_429 (pc' := 431) rfl (v := 12) rfl ?_
        refine g_bipush W546 dP0_431 (pc' := 433) rfl (v := 105) rfl ?_
        refine g_castore W546 dP0_433 (pc' := 434) rfl A545 (i := 12) rfl (by decide) (by first | decide | simp) (y := (105 : Int32)) (by decide) (vs' := [(.int (97 : Int32)), (.int (118 : Int32)), (.int (97 : Int32)), (.int (105 : Int32)), (.int (108 : Int32)), (.int (97 : Int32)), (.int (98 : Int32)), (.int (108 : Int32)), (.int (101 : Int32)), (.int (67 : Int32)), (.int (111 : Int32)), (.int (112 : Int32)), (.int (105 : Int32)), (.int (0 : Int32)), (.int (0 : Int32)), (.int (0 : Int32))]) rfl (by simp) (Or.inr na474) ?_
        intro T548 h549 w550 A551 W552
        have X553 : Ext h0 h549 := own_ext_wr X547 w550 (by rw [g475]; exact Nat.le_refl _)
        refine g_dup W552 dP0_434 (pc' := 435) rfl rfl ?_
        refine g_bipush W552 dP0_435 (pc' := 437) rfl (v := 13) rfl ?_
        refine g_bipush W552 dP0_437 (pc' := 439) rfl (v := 101) rfl ?_
        refine g_castore W552 dP0_439 (pc' := 440) rfl A551 (i := 13) rfl (by decide) (by first | decide | simp) (y := (101 : Int32)) (by decide) (vs' := [(.int (97 : Int32)), (.int (118 : Int32)), (.int (97 : Int32)), (.int (105 : Int32)), (.int (108 : Int32)), (.int (97 : Int32)), (.int (98 : Int32)), (.int (108 : Int32)), (.int (101 : Int32)), (.int (67 : Int32)), (.int (111 : Int32)), (.int (112 : Int32)), (.int (105 : Int32)), (.int (101 : Int32)), (.int (0 : Int32)), (.int (0 : Int32))]) rfl (by simp) (Or.inr na474) ?_
        intro T554 h555 w556 A557 W558
        have X559 : Ext h0 h555 := own_ext_wr X553 w556 (by rw [g475]; exact Nat.le_refl _)
        refine g_dup W558 dP0_440 (pc' := 441) rfl rfl ?_
        refine g_bipush W558 dP0_441 (pc' := 443) rfl (v := 14) rfl ?_
        refine g_bipush W558 dP0_443 (pc' := 445) rfl (v := 115) rfl ?_
        refine g_castore W558 dP0_445 (pc' := 446) rfl A557 (i := 14) rfl (by decide) (by first | decide | simp) (y := (115 : Int32)) (by decide) (vs' := [(.int (97 : Int32)), (.int (118 : Int32)), (.int (97 : Int32)), (.int (105 : Int32)), (.int (108 : Int32)), (.int (97 : Int32)), (.int (98 : Int32)), (.int (108 : Int32)), (.int (101 : Int32)), (.int (67 : Int32)), (.int (111 : Int32)), (.int (112 : Int32)), (.int (105 : Int32)), (.int (101 : Int32)), (.int (115 : Int32)), (.int (0 : Int32))]) rfl (by simp) (Or.inr na474) ?_
        intro T560 h561 w562 A563 W564
        have X565 : Ext h0 h561 := own_ext_wr X559 w562 (by rw [g475]; exact Nat.le_refl _)
        refine g_dup W564 dP0_446 (pc' := 447) rfl rfl ?_
        refine g_bipush W564 dP0_447 (pc' := 449) rfl (v := 15) rfl ?_
        refine g_iloadN W564 dP0_449 (pc' := 450) rfl rfl ?_
        refine g_castore W564 dP0_450 (pc' := 451) rfl A563 (i := 15) rfl (by decide) (by first | decide | simp) (y := (w &&& (255 : Int32))) (i2c_mask _) (vs' := [(.int (97 : Int32)), (.int (118 : Int32)), (.int (97 : Int32)), (.int (105 : Int32)), (.int (108 : Int32)), (.int (97 : Int32)), (.int (98 : Int32)), (.int (108 : Int32)), (.int (101 : Int32)), (.int (67 : Int32)), (.int (111 : Int32)), (.int (112 : Int32)), (.int (105 : Int32)), (.int (101 : Int32)), (.int (115 : Int32)), (.int (w &&& (255 : Int32)))]) rfl (by simp) (Or.inr na474) ?_
        intro T566 h567 w568 A569 W570
        have X571 : Ext h0 h567 := own_ext_wr X565 w568 (by rw [g475]; exact Nat.le_refl _)
        exact g_aret W570 dP0_451 rfl rfl rfl rfl ⟨a474, _, [(97 : Int32), (118 : Int32), (97 : Int32), (105 : Int32), (108 : Int32), (97 : Int32), (98 : Int32), (108 : Int32), (101 : Int32), (67 : Int32), (111 : Int32), (112 : Int32), (105 : Int32), (101 : Int32), (115 : Int32), (w &&& (255 : Int32))], rfl, X571, (by first | exact Nat.le_refl _ | exact Nat.le_of_eq g475.symm), by simp, by simp, (own_bc (by decide) (own_bc (by decide) (own_bc (by decide) (own_bc (by decide) (own_bc (by decide) (own_bc (by decide) (own_bc (by decide) (own_bc (by decide) (own_bc (by decide) (own_bc (by decide) (own_bc (by decide) (own_bc (by decide) (own_bc (by decide) (own_bc (by decide) (own_bc (by decide) (own_bc (own_b255 _) own_b0)))))))))))))))), A569⟩
      · skip
        refine g_icY W0 dP0_355 (pc' := 452) (feq c467).2 (by decide) (by decide) ?_
        refine g_iloadN W0 dP0_452 (pc' := 453) rfl rfl ?_
        refine g_iconst W0 dP0_453 (pc' := 454) rfl (v := 2) rfl ?_
        by_cases c572 : md = (2 : Int32)
        · skip
          refine g_icN W0 dP0_454 (pc' := 457) (teq c572).2 rfl ?_
          refine g_bipush W0 dP0_457 (pc' := 459) rfl (v := 14) rfl ?_
          refine g_newP W0 dP0_459 (pc' := 461) (cap := 14) rfl (ty := .char) (dv := (.int 0)) rfl rfl (hw _ (List.mem_of_getElem? (i := 4) rfl)) (by decide) (by decide) (by decide) (by decide) (by decide) ?_
          intro T573 h574 cA575 E576 A577 W578
          obtain ⟨a579, g580⟩ : ∃ z, z = h0.size := ⟨_, rfl⟩
          rw [← g580] at A577 W578 ⊢
          have na579 : s.heap.size ≤ a579 := by rw [g580]; exact W0.grown
          refine g_dup W578 dP0_461 (pc' := 462) rfl rfl ?_
          refine g_iconst W578 dP0_462 (pc' := 463) rfl (v := 0) rfl ?_
          refine g_bipush W578 dP0_463 (pc' := 465) rfl (v := 97) rfl ?_
          refine g_castore W578 dP0_465 (pc' := 466) rfl (own_pad0 14 A577) (i := 0) rfl (by decide) (by first | decide | simp) (y := (97 : Int32)) (by decide) (vs' := [(.int (97 : Int32)), (.int (0 : Int32)), (.int (0 : Int32)), (.int (0 : Int32)), (.int (0 : Int32)), (.int (0 : Int32)), (.int (0 : Int32)), (.int (0 : Int32)), (.int (0 : Int32)), (.int (0 : Int32)), (.int (0 : Int32)), (.int (0 : Int32)), (.int (0 : Int32)), (.int (0 : Int32))]) rfl (by simp) (Or.inr na579) ?_
          intro T581 h582 w583 A584 W585
          have X586 : Ext h0 h582 := own_ext_wr E576 w583 (by rw [g580]; exact Nat.le_refl _)
          refine g_dup W585 dP0_466 (pc' := 467) rfl rfl ?_
          refine g_iconst W585 dP0_467 (pc' := 468) rfl (v := 1) rfl ?_
          refine g_bipush W585 dP0_468 (pc' := 470) rfl (v := 118) rfl ?_
          refine g_castore W585 dP0_470 (pc' := 471) rfl A584 (i := 1) rfl (by decide) (by first | decide | simp) (y := (118 : Int32)) (by decide) (vs' := [(.int (97 : Int32)), (.int (118 : Int32)), (.int (0 : Int32)), (.int (0 : Int32)), (.int (0 : Int32)), (.int (0 : Int32)), (.int (0 : Int32)), (.int (0 : Int32)), (.int (0 : Int32)), (.int (0 : Int32)), (.int (0 : Int32)), (.int (0 : Int32)), (.int (0 : Int32)), (.int (0 : Int32))]) rfl (by simp) (Or.inr na579) ?_
          intro T587 h588 w589 A590 W591
          have X592 : Ext h0 h588 := own_ext_wr X586 w589 (by rw [g580]; exact Nat.le_refl _)
          refine g_dup W591 dP0_471 (pc' := 472) rfl rfl ?_
          refine g_iconst W591 dP0_472 (pc' := 473) rfl (v := 2) rfl ?_
          refine g_bipush W591 dP0_473 (pc' := 475) rfl (v := 97) rfl ?_
          refine g_castore W591 dP0_475 (pc' := 476) rfl A590 (i := 2) rfl (by decide) (by first | decide | simp) (y := (97 : Int32)) (by decide) (vs' := [(.int (97 : Int32)), (.int (118 : Int32)), (.int (97 : Int32)), (.int (0 : Int32)), (.int (0 : Int32)), (.int (0 : Int32)), (.int (0 : Int32)), (.int (0 : Int32)), (.int (0 : Int32)), (.int (0 : Int32)), (.int (0 : Int32)), (.int (0 : Int32)), (.int (0 : Int32)), (.int (0 : Int32))]) rfl (by simp) (Or.inr na579) ?_
          intro T593 h594 w595 A596 W597
          have X598 : Ext h0 h594 := own_ext_wr X592 w595 (by rw [g580]; exact Nat.le_refl _)
          refine g_dup W597 dP0_476 (pc' := 477) rfl rfl ?_
          refine g_iconst W597 dP0_477 (pc' := 478) rfl (v := 3) rfl ?_
          refine g_bipush W597 dP0_478 (pc' := 480) rfl (v := 105) rfl ?_
          refine g_castore W597 dP0_480 (pc' := 481) rfl A596 (i := 3) rfl (by decide) (by first | decide | simp) (y := (105 : Int32)) (by decide) (vs' := [(.int (97 : Int32)), (.int (118 : Int32)), (.int (97 : Int32)), (.int (105 : Int32)), (.int (0 : Int32)), (.int (0 : Int32)), (.int (0 : Int32)), (.int (0 : Int32)), (.int (0 : Int32)), (.int (0 : Int32)), (.int (0 : Int32)), (.int (0 : Int32)), (.int (0 : Int32)), (.int (0 : Int32))]) rfl (by simp) (Or.inr na579) ?_
          intro T599 h600 w601 A602 W603
          have X604 : Ext h0 h600 := own_ext_wr X598 w601 (by rw [g580]; exact Nat.le_refl _)
          refine g_dup W603 dP0_481 (pc' := 482) rfl rfl ?_
          refine g_iconst W603 dP0_482 (pc' := 483) rfl (v := 4) rfl ?_
          refine g_bipush W603 dP0_483 (pc' := 485) rfl (v := 108) rfl ?_
          refine g_castore W603 dP0_485 (pc' := 486) rfl A602 (i := 4) rfl (by decide) (by first | decide | simp) (y := (108 : Int32)) (by decide) (vs' := [(.int (97 : Int32)), (.int (118 : Int32)), (.int (97 : Int32)), (.int (105 : Int32)), (.int (108 : Int32)), (.int (0 : Int32)), (.int (0 : Int32)), (.int (0 : Int32)), (.int (0 : Int32)), (.int (0 : Int32)), (.int (0 : Int32)), (.int (0 : Int32)), (.int (0 : Int32)), (.int (0 : Int32))]) rfl (by simp) (Or.inr na579) ?_
          intro T605 h606 w607 A608 W609
          have X610 : Ext h0 h606 := own_ext_wr X604 w607 (by rw [g580]; exact Nat.le_refl _)
          refine g_dup W609 dP0_486 (pc' := 487) rfl rfl ?_
          refine g_iconst W609 dP0_487 (pc' := 488) rfl (v := 5) rfl ?_
          refine g_bipush W609 dP0_488 (pc' := 490) rfl (v := 97) rfl ?_
          refine g_castore W609 dP0_490 (pc' := 491) rfl A608 (i := 5) rfl (by decide) (by first | decide | simp) (y := (97 : Int32)) (by decide) (vs' := [(.int (97 : Int32)), (.int (118 : Int32)), (.int (97 : Int32)), (.int (105 : Int32)), (.int (108 : Int32)), (.int (97 : Int32)), (.int (0 : Int32)), (.int (0 : Int32)), (.int (0 : Int32)), (.int (0 : Int32)), (.int (0 : Int32)), (.int (0 : Int32)), (.int (0 : Int32)), (.int (0 : Int32))]) rfl (by simp) (Or.inr na579) ?_
          intro T611 h612 w613 A614 W615
          have X616 : Ext h0 h612 := own_ext_wr X610 w613 (by rw [g580]; exact Nat.le_refl _)
          refine g_dup W615 dP0_491 (pc' := 492) rfl rfl ?_
          refine g_bipush W615 dP0_492 (pc' := 494) rfl (v := 6) rfl ?_
          refine g_bipush W615 dP0_494 (pc' := 496) rfl (v := 98) rfl ?_
          refine g_castore W615 dP0_496 (pc' := 497) rfl A614 (i := 6) rfl (by decide) (by first | decide | simp) (y := (98 : Int32)) (by decide) (vs' := [(.int (97 : Int32)), (.int (118 : Int32)), (.int (97 : Int32)), (.int (105 : Int32)), (.int (108 : Int32)), (.int (97 : Int32)), (.int (98 : Int32)), (.int (0 : Int32)), (.int (0 : Int32)), (.int (0 : Int32)), (.int (0 : Int32)), (.int (0 : Int32)), (.int (0 : Int32)), (.int (0 : Int32))]) rfl (by simp) (Or.inr na579) ?_
          intro T617 h618 w619 A620 W621
          have X622 : Ext h0 h618 := own_ext_wr X616 w619 (by rw [g580]; exact Nat.le_refl _)
          refine g_dup W621 dP0_497 (pc' := 498) rfl rfl ?_
          refine g_bipush W621 dP0_498 (pc' := 500) rfl (v := 7) rfl ?_
          refine g_bipush W621 dP0_500 (pc' := 502) rfl (v := 108) rfl ?_
          refine g_castore W621 dP0_502 (pc' := 503) rfl A620 (i := 7) rfl (by decide) (by first | decide | simp) (y := (108 : Int32)) (by decide) (vs' := [(.int (97 : Int32)), (.int (118 : Int32)), (.int (97 : Int32)), (.int (105 : Int32)), (.int (108 : Int32)), (.int (97 : Int32)), (.int (98 : Int32)), (.int (108 : Int32)), (.int (0 : Int32)), (.int (0 : Int32)), (.int (0 : Int32)), (.int (0 : Int32)), (.int (0 : Int32)), (.int (0 : Int32))]) rfl (by simp) (Or.inr na579) ?_
          intro T623 h624 w625 A626 W627
          have X628 : Ext h0 h624 := own_ext_wr X622 w625 (by rw [g580]; exact Nat.le_refl _)
          refine g_dup W627 dP0_503 (pc' := 504) rfl rfl ?_
          refine g_bipush W627 dP0_504 (pc' := 506) rfl (v := 8) rfl ?_
          refine g_bipush W627 dP0_506 (pc' := 508) rfl (v := 101) rfl ?_
          refine g_castore W627 dP0_508 (pc' := 509) rfl A626 (i := 8) rfl (by decide) (by first | decide | simp) (y := (101 : Int32)) (by decide) (vs' := [(.int (97 : Int32)), (.int (118 : Int32)), (.int (97 : Int32)), (.int (105 : Int32)), (.int (108 : Int32)), (.int (97 : Int32)), (.int (98 : Int32)), (.int (108 : Int32)), (.int (101 : Int32)), (.int (0 : Int32)), (.int (0 : Int32)), (.int (0 : Int32)), (.int (0 : Int32)), (.int (0 : Int32))]) rfl (by simp) (Or.inr na579) ?_
          intro T629 h630 w631 A632 W633
          have X634 : Ext h0 h630 := own_ext_wr X628 w631 (by rw [g580]; exact Nat.le_refl _)
          refine g_dup W633 dP0_509 (pc' := 510) rfl rfl ?_
          refine g_bipush W633 dP0_510 (pc' := 512) rfl (v := 9) rfl ?_
          refine g_bipush W633 dP0_512 (pc' := 514) rfl (v := 67) rfl ?_
          refine g_castore W633 dP0_514 (pc' := 515) rfl A632 (i := 9) rfl (by decide) (by first | decide | simp) (y := (67 : Int32)) (by decide) (vs' := [(.int (97 : Int32)), (.int (118 : Int32)), (.int (97 : Int32)), (.int (105 : Int32)), (.int (108 : Int32)), (.int (97 : Int32)), (.int (98 : Int32)), (.int (108 : Int32)), (.int (101 : Int32)), (.int (67 : Int32)), (.int (0 : Int32)), (.int (0 : Int32)), (.int (0 : Int32)), (.int (0 : Int32))]) rfl (by simp) (Or.inr na579) ?_
          intro T635 h636 w637 A638 W639
          have X640 : Ext h0 h636 := own_ext_wr X634 w637 (by rw [g580]; exact Nat.le_refl _)
          refine g_dup W639 dP0_515 (pc' := 516) rfl rfl ?_
          refine g_bipush W639 dP0_516 (pc' := 518) rfl (v := 10) rfl ?_
          refine g_bipush W639 dP0_518 (pc' := 520) rfl (v := 111) rfl ?_
          refine g_castore W639 dP0_520 (pc' := 521) rfl A638 (i := 10) rfl (by decide) (by first | decide | simp) (y := (111 : Int32)) (by decide) (vs' := [(.int (97 : Int32)), (.int (118 : Int32)), (.int (97 : Int32)), (.int (105 : Int32)), (.int (108 : Int32)), (.int (97 : Int32)), (.int (98 : Int32)), (.int (108 : Int32)), (.int (101 : Int32)), (.int (67 : Int32)), (.int (111 : Int32)), (.int (0 : Int32)), (.int (0 : Int32)), (.int (0 : Int32))]) rfl (by simp) (Or.inr na579) ?_
          intro T641 h642 w643 A644 W645
          have X646 : Ext h0 h642 := own_ext_wr X640 w643 (by rw [g580]; exact Nat.le_refl _)
          refine g_dup W645 dP0_521 (pc' := 522) rfl rfl ?_
          refine g_bipush W645 dP0_522 (pc' := 524) rfl (v := 11) rfl ?_
          refine g_bipush W645 dP0_524 (pc' := 526) rfl (v := 112) rfl ?_
          refine g_castore W645 dP0_526 (pc' := 527) rfl A644 (i := 11) rfl (by decide) (by first | decide | simp) (y := (112 : Int32)) (by decide) (vs' := [(.int (97 : Int32)), (.int (118 : Int32)), (.int (97 : Int32)), (.int (105 : Int32)), (.int (108 : Int32)), (.int (97 : Int32)), (.int (98 : Int32)), (.int (108 : Int32)), (.int (101 : Int32)), (.int (67 : Int32)), (.int (111 : Int32)), (.int (112 : Int32)), (.int (0 : Int32)), (.int (0 : Int32))]) rfl (by simp) (Or.inr na579) ?_
          intro T647 h648 w649 A650 W651
          have X652 : Ext h0 h648 := own_ext_wr X646 w649 (by rw [g580]; exact Nat.le_refl _)
          refine g_dup W651 dP0_527 (pc' := 528) rfl rfl ?_
          refine g_bipush W651 dP0_528 (pc' := 530) rfl (v := 12) rfl ?_
          refine g_bipush W651 dP0_530 (pc' := 532) rfl (v := 105) rfl ?_
          refine g_castore W651 dP0_532 (pc' := 533) rfl A650 (i := 12) rfl (by decide) (by first | decide | simp) (y := (105 : Int32)) (by decide) (vs' := [(.int (97 : Int32)), (.int (118 : Int32)), (.int (97 : Int32)), (.int (105 : Int32)), (.int (108 : Int32)), (.int (97 : Int32)), (.int (98 : Int32)), (.int (108 : Int32)), (.int (101 : Int32)), (.int (67 : Int32)), (.int (111 : Int32)), (.int (112 : Int32)), (.int (105 : Int32)), (.int (0 : Int32))]) rfl (by simp) (Or.inr na579) ?_
          intro T653 h654 w655 A656 W657
          have X658 : Ext h0 h654 := own_ext_wr X652 w655 (by rw [g580]; exact Nat.le_refl _)
          refine g_dup W657 dP0_533 (pc' := 534) rfl rfl ?_
          refine g_bipush W657 dP0_534 (pc' := 536) rfl (v := 13) rfl ?_
          refine g_bipush W657 dP0_536 (pc' := 538) rfl (v := 101) rfl ?_
          refine g_castore W657 dP0_538 (pc' := 539) rfl A656 (i := 13) rfl (by decide) (by first | decide | simp) (y := (101 : Int32)) (by decide) (vs' := [(.int (97 : Int32)), (.int (118 : Int32)), (.int (97 : Int32)), (.int (105 : Int32)), (.int (108 : Int32)), (.int (97 : Int32)), (.int (98 : Int32)), (.int (108 : Int32)), (.int (101 : Int32)), (.int (67 : Int32)), (.int (111 : Int32)), (.int (112 : Int32)), (.int (105 : Int32)), (.int (101 : Int32))]) rfl (by simp) (Or.inr na579) ?_
          intro T659 h660 w661 A662 W663
          have X664 : Ext h0 h660 := own_ext_wr X658 w661 (by rw [g580]; exact Nat.le_refl _)
          exact g_aret W663 dP0_539 rfl rfl rfl rfl ⟨a579, _, [(97 : Int32), (118 : Int32), (97 : Int32), (105 : Int32), (108 : Int32), (97 : Int32), (98 : Int32), (108 : Int32), (101 : Int32), (67 : Int32), (111 : Int32), (112 : Int32), (105 : Int32), (101 : Int32)], rfl, X664, (by first | exact Nat.le_refl _ | exact Nat.le_of_eq g580.symm), by simp, by simp, (own_bc (by decide) (own_bc (by decide) (own_bc (by decide) (own_bc (by decide) (own_bc (by decide) (own_bc (by decide) (own_bc (by decide) (own_bc (by decide) (own_bc (by decide) (own_bc (by decide) (own_bc (by decide) (own_bc (by decide) (own_bc (by decide) (own_bc (by decide) own_b0)))))))))))))), A662⟩
        · skip
          refine g_icY W0 dP0_454 (pc' := 540) (feq c572).2 (by decide) (by decide) ?_
          refine g_bipush W0 dP0_540 (pc' := 542) rfl (v := 15) rfl ?_
          refine g_newP W0 dP0_542 (pc' := 544) (cap := 15) rfl (ty := .char) (dv := (.int 0)) rfl rfl (hw _ (List.mem_of_getElem? (i := 4) rfl)) (by decide) (by decide) (by decide) (by decide) (by decide) ?_
          intro T665 h666 cA667 E668 A669 W670
          obtain ⟨a671, g672⟩ : ∃ z, z = h0.size := ⟨_, rfl⟩
          rw [← g672] at A669 W670 ⊢
          have na671 : s.heap.size ≤ a671 := by rw [g672]; exact W0.grown
          refine g_dup W670 dP0_544 (pc' := 545) rfl rfl ?_
          refine g_iconst W670 dP0_545 (pc' := 546) rfl (v := 0) rfl ?_
          refine g_bipush W670 dP0_546 (pc' := 548) rfl (v := 97) rfl ?_
          refine g_castore W670 dP0_548 (pc' := 549) rfl (own_pad0 15 A669) (i := 0) rfl (by decide) (by first | decide | simp) (y := (97 : Int32)) (by decide) (vs' := [(.int (97 : Int32)), (.int (0 : Int32)), (.int (0 : Int32)), (.int (0 : Int32)), (.int (0 : Int32)), (.int (0 : Int32)), (.int (0 : Int32)), (.int (0 : Int32)), (.int (0 : Int32)), (.int (0 : Int32)), (.int (0 : Int32)), (.int (0 : Int32)), (.int (0 : Int32)), (.int (0 : Int32)), (.int (0 : Int32))]) rfl (by simp) (Or.inr na671) ?_
          intro T673 h674 w675 A676 W677
          have X678 : Ext h0 h674 := own_ext_wr E668 w675 (by rw [g672]; exact Nat.le_refl _)
          refine g_dup W677 dP0_549 (pc' := 550) rfl rfl ?_
          refine g_iconst W677 dP0_550 (pc' := 551) rfl (v := 1) rfl ?_
          refine g_bipush W677 dP0_551 (pc' := 553) rfl (v := 118) rfl ?_
          refine g_castore W677 dP0_553 (pc' := 554) rfl A676 (i := 1) rfl (by decide) (by first | decide | simp) (y := (118 : Int32)) (by decide) (vs' := [(.int (97 : Int32)), (.int (118 : Int32)), (.int (0 : Int32)), (.int (0 : Int32)), (.int (0 : Int32)), (.int (0 : Int32)), (.int (0 : Int32)), (.int (0 : Int32)), (.int (0 : Int32)), (.int (0 : Int32)), (.int (0 : Int32)), (.int (0 : Int32)), (.int (0 : Int32)), (.int (0 : Int32)), (.int (0 : Int32))]) rfl (by simp) (Or.inr na671) ?_
          intro T679 h680 w681 A682 W683
          have X684 : Ext h0 h680 := own_ext_wr X678 w681 (by rw [g672]; exact Nat.le_refl _)
          refine g_dup W683 dP0_554 (pc' := 555) rfl rfl ?_
          refine g_iconst W683 dP0_555 (pc' := 556) rfl (v := 2) rfl ?_
          refine g_bipush W683 dP0_556 (pc' := 558) rfl (v := 97) rfl ?_
          refine g_castore W683 dP0_558 (pc' := 559) rfl A682 (i := 2) rfl (by decide) (by first | decide | simp) (y := (97 : Int32)) (by decide) (vs' := [(.int (97 : Int32)), (.int (118 : Int32)), (.int (97 : Int32)), (.int (0 : Int32)), (.int (0 : Int32)), (.int (0 : Int32)), (.int (0 : Int32)), (.int (0 : Int32)), (.int (0 : Int32)), (.int (0 : Int32)), (.int (0 : Int32)), (.int (0 : Int32)), (.int (0 : Int32)), (.int (0 : Int32)), (.int (0 : Int32))]) rfl (by simp) (Or.inr na671) ?_
          intro T685 h686 w687 A688 W689
          have X690 : Ext h0 h686 := own_ext_wr X684 w687 (by rw [g672]; exact Nat.le_refl _)
          refine g_dup W689 dP0_559 (pc' := 560) rfl rfl ?_
          refine g_iconst W689 dP0_560 (pc' := 561) rfl (v := 3) rfl ?_
          refine g_bipush W689 dP0_561 (pc' := 563) rfl (v := 105) rfl ?_
          refine g_castore W689 dP0_563 (pc' := 564) rfl A688 (i := 3) rfl (by decide) (by first | decide | simp) (y := (105 : Int32)) (by decide) (vs' := [(.int (97 : Int32)), (.int (118 : Int32)), (.int (97 : Int32)), (.int (105 : Int32)), (.int (0 : Int32)), (.int (0 : Int32)), (.int (0 : Int32)), (.int (0 : Int32)), (.int (0 : Int32)), (.int (0 : Int32)), (.int (0 : Int32)), (.int (0 : Int32)), (.int (0 : Int32)), (.int (0 : Int32)), (.int (0 : Int32))]) rfl (by simp) (Or.inr na671) ?_
          intro T691 h692 w693 A694 W695
          have X696 : Ext h0 h692 := own_ext_wr X690 w693 (by rw [g672]; exact Nat.le_refl _)
          refine g_dup W695 dP0_564 (pc' := 565) rfl rfl ?_
          refine g_iconst W695 dP0_565 (pc' := 566) rfl (v := 4) rfl ?_
          refine g_bipush W695 dP0_566 (pc' := 568) rfl (v := 108) rfl ?_
          refine g_castore W695 dP0_568 (pc' := 569) rfl A694 (i := 4) rfl (by decide) (by first | decide | simp) (y := (108 : Int32)) (by decide) (vs' := [(.int (97 : Int32)), (.int (118 : Int32)), (.int (97 : Int32)), (.int (105 : Int32)), (.int (108 : Int32)), (.int (0 : Int32)), (.int (0 : Int32)), (.int (0 : Int32)), (.int (0 : Int32)), (.int (0 : Int32)), (.int (0 : Int32)), (.int (0 : Int32)), (.int (0 : Int32)), (.int (0 : Int32)), (.int (0 : Int32))]) rfl (by simp) (Or.inr na671) ?_
          intro T697 h698 w699 A700 W701
          have X702 : Ext h0 h698 := own_ext_wr X696 w699 (by rw [g672]; exact Nat.le_refl _)
          refine g_dup W701 dP0_569 (pc' := 570) rfl rfl ?_
          refine g_iconst W701 dP0_570 (pc' := 571) rfl (v := 5) rfl ?_
          refine g_bipush W701 dP0_571 (pc' := 573) rfl (v := 97) rfl ?_
          refine g_castore W701 dP0_573 (pc' := 574) rfl A700 (i := 5) rfl (by decide) (by first | decide | simp) (y := (97 : Int32)) (by decide) (vs' := [(.int (97 : Int32)), (.int (118 : Int32)), (.int (97 : Int32)), (.int (105 : Int32)), (.int (108 : Int32)), (.int (97 : Int32)), (.int (0 : Int32)), (.int (0 : Int32)), (.int (0 : Int32)), (.int (0 : Int32)), (.int (0 : Int32)), (.int (0 : Int32)), (.int (0 : Int32)), (.int (0 : Int32)), (.int (0 : Int32))]) rfl (by simp) (Or.inr na671) ?_
          intro T703 h704 w705 A706 W707
          have X708 : Ext h0 h704 := own_ext_wr X702 w705 (by rw [g672]; exact Nat.le_refl _)
          refine g_dup W707 dP0_574 (pc' := 575) rfl rfl ?_
          refine g_bipush W707 dP0_575 (pc' := 577) rfl (v := 6) rfl ?_
          refine g_bipush W707 dP0_577 (pc' := 579) rfl (v := 98) rfl ?_
          refine g_castore W707 dP0_579 (pc' := 580) rfl A706 (i := 6) rfl (by decide) (by first | decide | simp) (y := (98 : Int32)) (by decide) (vs' := [(.int (97 : Int32)), (.int (118 : Int32)), (.int (97 : Int32)), (.int (105 : Int32)), (.int (108 : Int32)), (.int (97 : Int32)), (.int (98 : Int32)), (.int (0 : Int32)), (.int (0 : Int32)), (.int (0 : Int32)), (.int (0 : Int32)), (.int (0 : Int32)), (.int (0 : Int32)), (.int (0 : Int32)), (.int (0 : Int32))]) rfl (by simp) (Or.inr na671) ?_
          intro T709 h710 w711 A712 W713
          have X714 : Ext h0 h710 := own_ext_wr X708 w711 (by rw [g672]; exact Nat.le_refl _)
          refine g_dup W713 dP0_580 (pc' := 581) rfl rfl ?_
          refine g_bipush W713 dP0_581 (pc' := 583) rfl (v := 7) rfl ?_
          refine g_bipush W713 dP0_583 (pc' := 585) rfl (v := 108) rfl ?_
          refine g_castore W713 dP0_585 (pc' := 586) rfl A712 (i := 7) rfl (by decide) (by first | decide | simp) (y := (108 : Int32)) (by decide) (vs' := [(.int (97 : Int32)), (.int (118 : Int32)), (.int (97 : Int32)), (.int (105 : Int32)), (.int (108 : Int32)), (.int (97 : Int32)), (.int (98 : Int32)), (.int (108 : Int32)), (.int (0 : Int32)), (.int (0 : Int32)), (.int (0 : Int32)), (.int (0 : Int32)), (.int (0 : Int32)), (.int (0 : Int32)), (.int (0 : Int32))]) rfl (by simp) (Or.inr na671) ?_
          intro T715 h716 w717 A718 W719
          have X720 : Ext h0 h716 := own_ext_wr X714 w717 (by rw [g672]; exact Nat.le_refl _)
          refine g_dup W719 dP0_586 (pc' := 587) rfl rfl ?_
          refine g_bipush W719 dP0_587 (pc' := 589) rfl (v := 8) rfl ?_
          refine g_bipush W719 dP0_589 (pc' := 591) rfl (v := 101) rfl ?_
          refine g_castore W719 dP0_591 (pc' := 592) rfl A718 (i := 8) rfl (by decide) (by first | decide | simp) (y := (101 : Int32)) (by decide) (vs' := [(.int (97 : Int32)), (.int (118 : Int32)), (.int (97 : Int32)), (.int (105 : Int32)), (.int (108 : Int32)), (.int (97 : Int32)), (.int (98 : Int32)), (.int (108 : Int32)), (.int (101 : Int32)), (.int (0 : Int32)), (.int (0 : Int32)), (.int (0 : Int32)), (.int (0 : Int32)), (.int (0 : Int32)), (.int (0 : Int32))]) rfl (by simp) (Or.inr na671) ?_
          intro T721 h722 w723 A724 W725
          have X726 : Ext h0 h722 := own_ext_wr X720 w723 (by rw [g672]; exact Nat.le_refl _)
          refine g_dup W725 dP0_592 (pc' := 593) rfl rfl ?_
          refine g_bipush W725 dP0_593 (pc' := 595) rfl (v := 9) rfl ?_
          refine g_bipush W725 dP0_595 (pc' := 597) rfl (v := 67) rfl ?_
          refine g_castore W725 dP0_597 (pc' := 598) rfl A724 (i := 9) rfl (by decide) (by first | decide | simp) (y := (67 : Int32)) (by decide) (vs' := [(.int (97 : Int32)), (.int (118 : Int32)), (.int (97 : Int32)), (.int (105 : Int32)), (.int (108 : Int32)), (.int (97 : Int32)), (.int (98 : Int32)), (.int (108 : Int32)), (.int (101 : Int32)), (.int (67 : Int32)), (.int (0 : Int32)), (.int (0 : Int32)), (.int (0 : Int32)), (.int (0 : Int32)), (.int (0 : Int32))]) rfl (by simp) (Or.inr na671) ?_
          intro T727 h728 w729 A730 W731
          have X732 : Ext h0 h728 := own_ext_wr X726 w729 (by rw [g672]; exact Nat.le_refl _)
          refine g_dup W731 dP0_598 (pc' := 599) rfl rfl ?_
          refine g_bipush W731 dP0_599 (pc' := 601) rfl (v := 10) rfl ?_
          refine g_bipush W731 dP0_601 (pc' := 603) rfl (v := 111) rfl ?_
          refine g_castore W731 dP0_603 (pc' := 604) rfl A730 (i := 10) rfl (by decide) (by first | decide | simp) (y := (111 : Int32)) (by decide) (vs' := [(.int (97 : Int32)), (.int (118 : Int32)), (.int (97 : Int32)), (.int (105 : Int32)), (.int (108 : Int32)), (.int (97 : Int32)), (.int (98 : Int32)), (.int (108 : Int32)), (.int (101 : Int32)), (.int (67 : Int32)), (.int (111 : Int32)), (.int (0 : Int32)), (.int (0 : Int32)), (.int (0 : Int32)), (.int (0 : Int32))]) rfl (by simp) (Or.inr na671) ?_
          intro T733 h734 w735 A736 W737
          have X738 : Ext h0 h734 := own_ext_wr X732 w735 (by rw [g672]; exact Nat.le_refl _)
          refine g_dup W737 dP0_604 (pc' := 605) rfl rfl ?_
          refine g_bipush W737 dP0_605 (pc' := 607) rfl (v := 11) rfl ?_
          refine g_bipush W737 dP0_607 (pc' := 609) rfl (v := 112) rfl ?_
          refine g_castore W737 dP0_609 (pc' := 610) rfl A736 (i := 11) rfl (by decide) (by first | decide | simp) (y := (112 : Int32)) (by decide) (vs' := [(.int (97 : Int32)), (.int (118 : Int32)), (.int (97 : Int32)), (.int (105 : Int32)), (.int (108 : Int32)), (.int (97 : Int32)), (.int (98 : Int32)), (.int (108 : Int32)), (.int (101 : Int32)), (.int (67 : Int32)), (.int (111 : Int32)), (.int (112 : Int32)), (.int (0 : Int32)), (.int (0 : Int32)), (.int (0 : Int32))]) rfl (by simp) (Or.inr na671) ?_
          intro T739 h740 w741 A742 W743
          have X744 : Ext h0 h740 := own_ext_wr X738 w741 (by rw [g672]; exact Nat.le_refl _)
          refine g_dup W743 dP0_610 (pc' := 611) rfl rfl ?_
          refine g_bipush W743 dP0_611 (pc' := 613) rfl (v := 12) rfl ?_
          refine g_bipush W743 dP0_613 (pc' := 615) rfl (v := 105) rfl ?_
          refine g_castore W743 dP0_615 (pc' := 616) rfl A742 (i := 12) rfl (by decide) (by first | decide | simp) (y := (105 : Int32)) (by decide) (vs' := [(.int (97 : Int32)), (.int (118 : Int32)), (.int (97 : Int32)), (.int (105 : Int32)), (.int (108 : Int32)), (.int (97 : Int32)), (.int (98 : Int32)), (.int (108 : Int32)), (.int (101 : Int32)), (.int (67 : Int32)), (.int (111 : Int32)), (.int (112 : Int32)), (.int (105 : Int32)), (.int (0 : Int32)), (.int (0 : Int32))]) rfl (by simp) (Or.inr na671) ?_
          intro T745 h746 w747 A748 W749
          have X750 : Ext h0 h746 := own_ext_wr X744 w747 (by rw [g672]; exact Nat.le_refl _)
          refine g_dup W749 dP0_616 (pc' := 617) rfl rfl ?_
          refine g_bipush W749 dP0_617 (pc' := 619) rfl (v := 13) rfl ?_
          refine g_bipush W749 dP0_619 (pc' := 621) rfl (v := 101) rfl ?_
          refine g_castore W749 dP0_621 (pc' := 622) rfl A748 (i := 13) rfl (by decide) (by first | decide | simp) (y := (101 : Int32)) (by decide) (vs' := [(.int (97 : Int32)), (.int (118 : Int32)), (.int (97 : Int32)), (.int (105 : Int32)), (.int (108 : Int32)), (.int (97 : Int32)), (.int (98 : Int32)), (.int (108 : Int32)), (.int (101 : Int32)), (.int (67 : Int32)), (.int (111 : Int32)), (.int (112 : Int32)), (.int (105 : Int32)), (.int (101 : Int32)), (.int (0 : Int32))]) rfl (by simp) (Or.inr na671) ?_
          intro T751 h752 w753 A754 W755
          have X756 : Ext h0 h752 := own_ext_wr X750 w753 (by rw [g672]; exact Nat.le_refl _)
          refine g_dup W755 dP0_622 (pc' := 623) rfl rfl ?_
          refine g_bipush W755 dP0_623 (pc' := 625) rfl (v := 14) rfl ?_
          refine g_bipush W755 dP0_625 (pc' := 627) rfl (v := 115) rfl ?_
          refine g_castore W755 dP0_627 (pc' := 628) rfl A754 (i := 14) rfl (by decide) (by first | decide | simp) (y := (115 : Int32)) (by decide) (vs' := [(.int (97 : Int32)), (.int (118 : Int32)), (.int (97 : Int32)), (.int (105 : Int32)), (.int (108 : Int32)), (.int (97 : Int32)), (.int (98 : Int32)), (.int (108 : Int32)), (.int (101 : Int32)), (.int (67 : Int32)), (.int (111 : Int32)), (.int (112 : Int32)), (.int (105 : Int32)), (.int (101 : Int32)), (.int (115 : Int32))]) rfl (by simp) (Or.inr na671) ?_
          intro T757 h758 w759 A760 W761
          have X762 : Ext h0 h758 := own_ext_wr X756 w759 (by rw [g672]; exact Nat.le_refl _)
          exact g_aret W761 dP0_628 rfl rfl rfl rfl ⟨a671, _, [(97 : Int32), (118 : Int32), (97 : Int32), (105 : Int32), (108 : Int32), (97 : Int32), (98 : Int32), (108 : Int32), (101 : Int32), (67 : Int32), (111 : Int32), (112 : Int32), (105 : Int32), (101 : Int32), (115 : Int32)], rfl, X762, (by first | exact Nat.le_refl _ | exact Nat.le_of_eq g672.symm), by simp, by simp, (own_bc (by decide) (own_bc (by decide) (own_bc (by decide) (own_bc (by decide) (own_bc (by decide) (own_bc (by decide) (own_bc (by decide) (own_bc (by decide) (own_bc (by decide) (own_bc (by decide) (own_bc (by decide) (own_bc (by decide) (own_bc (by decide) (own_bc (by decide) (own_bc (by decide) own_b0))))))))))))))), A760⟩
set_option maxRecDepth 65536 in
set_option maxHeartbeats 4000000 in
theorem con_drawn (l : Launch) (Z : State) (a0 : Array Value) (hw : ∀ d ∈ tables_1, d.before a0 Z = true) (hEL : EW Z a0 consts_1) (n0 x y z : Int32) (h0 : Heap) :
    Ocon l Z consts_1 (⟨"com/example/tidy_shelf/tidyshelf/catalogue/BookSortNamedPinLaw", "drawn", "(IIII)[C"⟩ : MethodName) method_4_code 7 (some (.array .char)) [] ({ frames := 0, cells := 1, slots := 16, locals := 0 } : Room) #[(.int n0), (.int x), (.int y), (.int z)] h0 [] [] (fun v h _ => ∃ (a : Addr) (kC : ClassId) (cs : List Int32), v = some (.ref a) ∧ Ext h0 h ∧ h0.size ≤ a ∧  cs.length ≤ 16 ∧ (∀ c ∈ cs, ¬ c < 0 ∧ ¬ (255 : Int32) < c) ∧ Arv Z h a kC .char (Int32.ofNat cs.length) (cs.map Value.int) (.int 0)) := by
  refine own_con (a0 := a0) hEL (plainFor_of_name pn_com_example_tidy_shelf_tidyshelf_catalogue_BookSortNamedPinLaw) ?_
  intro p e s m below meth c T hs W0
  have ef : entryFrame m #[(.int n0), (.int x), (.int y), (.int z)] 7 = mkF m 0 #[.val (.int n0), .val (.int x), .val (.int y), .val (.int z), .unset, .unset, .unset] [] := by first | rfl | (simp [entryFrame, mkF, argsToLocals, Value.category]; done)
  rw [ef]
  refine g_iloadN W0 dP1_0 (pc' := 1) rfl rfl ?_
  refine g_sipush W0 dP1_1 (pc' := 4) rfl (v := 255) rfl ?_
  refine g_iand W0 dP1_4 (pc' := 5) rfl ?_
  refine g_i2c W0 dP1_5 (pc' := 6) rfl ?_
  rw [i2c_mask]
  refine g_istore W0 dP1_6 (pc' := 8) rfl (ls' := #[.val (.int n0), .val (.int x), .val (.int y), .val (.int z), .val (.int (x &&& (255 : Int32))), .unset, .unset]) rfl ?_
  refine g_iloadN W0 dP1_8 (pc' := 9) rfl rfl ?_
  refine g_sipush W0 dP1_9 (pc' := 12) rfl (v := 255) rfl ?_
  refine g_iand W0 dP1_12 (pc' := 13) rfl ?_
  refine g_i2c W0 dP1_13 (pc' := 14) rfl ?_
  rw [i2c_mask]
  refine g_istore W0 dP1_14 (pc' := 16) rfl (ls' := #[.val (.int n0), .val (.int x), .val (.int y), .val (.int z), .val (.int (x &&& (255 : Int32))), .val (.int (y &&& (255 : Int32))), .unset]) rfl ?_
  refine g_iloadN W0 dP1_16 (pc' := 17) rfl rfl ?_
  refine g_sipush W0 dP1_17 (pc' := 20) rfl (v := 255) rfl ?_
  refine g_iand W0 dP1_20 (pc' := 21) rfl ?_
  refine g_i2c W0 dP1_21 (pc' := 22) rfl ?_
  rw [i2c_mask]
  refine g_istore W0 dP1_22 (pc' := 24) rfl (ls' := #[.val (.int n0), .val (.int x), .val (.int y), .val (.int z), .val (.int (x &&& (255 : Int32))), .val (.int (y &&& (255 : Int32))), .val (.int (z &&& (255 : Int32)))]) rfl ?_
  refine g_iloadN W0 dP1_24 (pc' := 25) rfl rfl ?_
  by_cases c763 : n0 = (0 : Int32)
  · skip
    refine g_ifN W0 dP1_25 (pc' := 28) (teq c763).2 rfl ?_
    refine g_iconst W0 dP1_28 (pc' := 29) rfl (v := 0) rfl ?_
    refine g_newP W0 dP1_29 (pc' := 31) (cap := 0) rfl (ty := .char) (dv := (.int 0)) rfl rfl (hw _ (List.mem_of_getElem? (i := 4) rfl)) (by decide) (by decide) (by decide) (by decide) (by decide) ?_
    intro T764 h765 cA766 E767 A768 W769
    obtain ⟨a770, g771⟩ : ∃ z, z = h0.size := ⟨_, rfl⟩
    rw [← g771] at A768 W769 ⊢
    have na770 : s.heap.size ≤ a770 := by rw [g771]; exact W0.grown
    exact g_aret W769 dP1_31 rfl rfl rfl rfl ⟨a770, _, [], rfl, E767, (by first | exact Nat.le_refl _ | exact Nat.le_of_eq g771.symm), by simp, own_b0, (own_pad0 0 A768)⟩
  · skip
    refine g_ifY W0 dP1_25 (pc' := 32) (feq c763).2 (by decide) (by decide) ?_
    refine g_iloadN W0 dP1_32 (pc' := 33) rfl rfl ?_
    refine g_iconst W0 dP1_33 (pc' := 34) rfl (v := 1) rfl ?_
    by_cases c772 : n0 = (1 : Int32)
    · skip
      refine g_icN W0 dP1_34 (pc' := 37) (teq c772).2 rfl ?_
      refine g_iconst W0 dP1_37 (pc' := 38) rfl (v := 1) rfl ?_
      refine g_newP W0 dP1_38 (pc' := 40) (cap := 1) rfl (ty := .char) (dv := (.int 0)) rfl rfl (hw _ (List.mem_of_getElem? (i := 4) rfl)) (by decide) (by decide) (by decide) (by decide) (by decide) ?_
      intro T773 h774 cA775 E776 A777 W778
      obtain ⟨a779, g780⟩ : ∃ z, z = h0.size := ⟨_, rfl⟩
      rw [← g780] at A777 W778 ⊢
      have na779 : s.heap.size ≤ a779 := by rw [g780]; exact W0.grown
      refine g_dup W778 dP1_40 (pc' := 41) rfl rfl ?_
      refine g_iconst W778 dP1_41 (pc' := 42) rfl (v := 0) rfl ?_
      refine g_iload W778 dP1_42 (pc' := 44) rfl rfl ?_
      refine g_castore W778 dP1_44 (pc' := 45) rfl (own_pad0 1 A777) (i := 0) rfl (by decide) (by first | decide | simp) (y := (x &&& (255 : Int32))) (i2c_mask _) (vs' := [(.int (x &&& (255 : Int32)))]) rfl (by simp) (Or.inr na779) ?_
      intro T781 h782 w783 A784 W785
      have X786 : Ext h0 h782 := own_ext_wr E776 w783 (by rw [g780]; exact Nat.le_refl _)
      exact g_aret W785 dP1_45 rfl rfl rfl rfl ⟨a779, _, [(x &&& (255 : Int32))], rfl, X786, (by first | exact Nat.le_refl _ | exact Nat.le_of_eq g780.symm), by simp, (own_bc (own_b255 _) own_b0), A784⟩
    · skip
      refine g_icY W0 dP1_34 (pc' := 46) (feq c772).2 (by decide) (by decide) ?_
      refine g_iloadN W0 dP1_46 (pc' := 47) rfl rfl ?_
      refine g_iconst W0 dP1_47 (pc' := 48) rfl (v := 2) rfl ?_
      by_cases c787 : n0 = (2 : Int32)
      · skip
        refine g_icN W0 dP1_48 (pc' := 51) (teq c787).2 rfl ?_
        refine g_iconst W0 dP1_51 (pc' := 52) rfl (v := 2) rfl ?_
        refine g_newP W0 dP1_52 (pc' := 54) (cap := 2) rfl (ty := .char) (dv := (.int 0)) rfl rfl (hw _ (List.mem_of_getElem? (i := 4) rfl)) (by decide) (by decide) (by decide) (by decide) (by decide) ?_
        intro T788 h789 cA790 E791 A792 W793
        obtain ⟨a794, g795⟩ : ∃ z, z = h0.size := ⟨_, rfl⟩
        rw [← g795] at A792 W793 ⊢
        have na794 : s.heap.size ≤ a794 := by rw [g795]; exact W0.grown
        refine g_dup W793 dP1_54 (pc' := 55) rfl rfl ?_
        refine g_iconst W793 dP1_55 (pc' := 56) rfl (v := 0) rfl ?_
        refine g_iload W793 dP1_56 (pc' := 58) rfl rfl ?_
        refine g_castore W793 dP1_58 (pc' := 59) rfl (own_pad0 2 A792) (i := 0) rfl (by decide) (by first | decide | simp) (y := (x &&& (255 : Int32))) (i2c_mask _) (vs' := [(.int (x &&& (255 : Int32))), (.int (0 : Int32))]) rfl (by simp) (Or.inr na794) ?_
        intro T796 h797 w798 A799 W800
        have X801 : Ext h0 h797 := own_ext_wr E791 w798 (by rw [g795]; exact Nat.le_refl _)
        refine g_dup W800 dP1_59 (pc' := 60) rfl rfl ?_
        refine g_iconst W800 dP1_60 (pc' := 61) rfl (v := 1) rfl ?_
        refine g_iload W800 dP1_61 (pc' := 63) rfl rfl ?_
        refine g_castore W800 dP1_63 (pc' := 64) rfl A799 (i := 1) rfl (by decide) (by first | decide | simp) (y := (y &&& (255 : Int32))) (i2c_mask _) (vs' := [(.int (x &&& (255 : Int32))), (.int (y &&& (255 : Int32)))]) rfl (by simp) (Or.inr na794) ?_
        intro T802 h803 w804 A805 W806
        have X807 : Ext h0 h803 := own_ext_wr X801 w804 (by rw [g795]; exact Nat.le_refl _)
        exact g_aret W806 dP1_64 rfl rfl rfl rfl ⟨a794, _, [(x &&& (255 : Int32)), (y &&& (255 : Int32))], rfl, X807, (by first | exact Nat.le_refl _ | exact Nat.le_of_eq g795.symm), by simp, (own_bc (own_b255 _) (own_bc (own_b255 _) own_b0)), A805⟩
      · skip
        refine g_icY W0 dP1_48 (pc' := 65) (feq c787).2 (by decide) (by decide) ?_
        refine g_iconst W0 dP1_65 (pc' := 66) rfl (v := 3) rfl ?_
        refine g_newP W0 dP1_66 (pc' := 68) (cap := 3) rfl (ty := .char) (dv := (.int 0)) rfl rfl (hw _ (List.mem_of_getElem? (i := 4) rfl)) (by decide) (by decide) (by decide) (by decide) (by decide) ?_
        intro T808 h809 cA810 E811 A812 W813
        obtain ⟨a814, g815⟩ : ∃ z, z = h0.size := ⟨_, rfl⟩
        rw [← g815] at A812 W813 ⊢
        have na814 : s.heap.size ≤ a814 := by rw [g815]; exact W0.grown
        refine g_dup W813 dP1_68 (pc' := 69) rfl rfl ?_
        refine g_iconst W813 dP1_69 (pc' := 70) rfl (v := 0) rfl ?_
        refine g_iload W813 dP1_70 (pc' := 72) rfl rfl ?_
        refine g_castore W813 dP1_72 (pc' := 73) rfl (own_pad0 3 A812) (i := 0) rfl (by decide) (by first | decide | simp) (y := (x &&& (255 : Int32))) (i2c_mask _) (vs' := [(.int (x &&& (255 : Int32))), (.int (0 : Int32)), (.int (0 : Int32))]) rfl (by simp) (Or.inr na814) ?_
        intro T816 h817 w818 A819 W820
        have X821 : Ext h0 h817 := own_ext_wr E811 w818 (by rw [g815]; exact Nat.le_refl _)
        refine g_dup W820 dP1_73 (pc' := 74) rfl rfl ?_
        refine g_iconst W820 dP1_74 (pc' := 75) rfl (v := 1) rfl ?_
        refine g_iload W820 dP1_75 (pc' := 77) rfl rfl ?_
        refine g_castore W820 dP1_77 (pc' := 78) rfl A819 (i := 1) rfl (by decide) (by first | decide | simp) (y := (y &&& (255 : Int32))) (i2c_mask _) (vs' := [(.int (x &&& (255 : Int32))), (.int (y &&& (255 : Int32))), (.int (0 : Int32))]) rfl (by simp) (Or.inr na814) ?_
        intro T822 h823 w824 A825 W826
        have X827 : Ext h0 h823 := own_ext_wr X821 w824 (by rw [g815]; exact Nat.le_refl _)
        refine g_dup W826 dP1_78 (pc' := 79) rfl rfl ?_
        refine g_iconst W826 dP1_79 (pc' := 80) rfl (v := 2) rfl ?_
        refine g_iload W826 dP1_80 (pc' := 82) rfl rfl ?_
        refine g_castore W826 dP1_82 (pc' := 83) rfl A825 (i := 2) rfl (by decide) (by first | decide | simp) (y := (z &&& (255 : Int32))) (i2c_mask _) (vs' := [(.int (x &&& (255 : Int32))), (.int (y &&& (255 : Int32))), (.int (z &&& (255 : Int32)))]) rfl (by simp) (Or.inr na814) ?_
        intro T828 h829 w830 A831 W832
        have X833 : Ext h0 h829 := own_ext_wr X827 w830 (by rw [g815]; exact Nat.le_refl _)
        exact g_aret W832 dP1_83 rfl rfl rfl rfl ⟨a814, _, [(x &&& (255 : Int32)), (y &&& (255 : Int32)), (z &&& (255 : Int32))], rfl, X833, (by first | exact Nat.le_refl _ | exact Nat.le_of_eq g815.symm), by simp, (own_bc (own_b255 _) (own_bc (own_b255 _) (own_bc (own_b255 _) own_b0))), A831⟩
abbrev own_t0 : List Int32 := [116, 105, 116, 108, 101]
abbrev own_t1 : List Int32 := [112, 117, 98, 108, 105, 115, 104, 101, 100, 68, 97, 116, 101]
abbrev own_t2 : List Int32 := [97, 118, 97, 105, 108, 97, 98, 108, 101, 67, 111, 112, 105, 101, 115]
theorem pn_com_example_tidy_shelf_tidyshelf_catalogue_BookSort : plainName "com/example/tidy_shelf/tidyshelf/catalogue/BookSort" = true := by first | (simp [plainName, overriddenIn]; done) | decide +kernel
set_option maxRecDepth 65536 in
set_option maxHeartbeats 4000000 in
theorem con_values (l : Launch) (Z : State) (a0 : Array Value) (hw : ∀ d ∈ tables_1, d.before a0 Z = true) (hEL : EW Z a0 consts_1) (va t0 t1 t2 q0 q1 q2 : Addr) (kv : ClassId) (zc : Int32) (SV : Sta Z Z.heap "com/example/tidy_shelf/tidyshelf/catalogue/BookSort" "$VALUES" "[Lcom/example/tidy_shelf/tidyshelf/catalogue/BookSort;" (.ref va)) (AV : Arv Z Z.heap va kv (.object "com/example/tidy_shelf/tidyshelf/catalogue/BookSort") 3 [.ref t0, .ref t1, .ref t2] .null) (EV : Exa Z Z.heap va "[Lcom/example/tidy_shelf/tidyshelf/catalogue/BookSort;") (h0 : Heap) (O : Ext Z.heap h0) :
    Ocon l Z consts_1 (⟨"com/example/tidy_shelf/tidyshelf/catalogue/BookSort", "values", "()[Lcom/example/tidy_shelf/tidyshelf/catalogue/BookSort;"⟩ : MethodName) prog_4_method_1_code 0 (some (.array (.object "com/example/tidy_shelf/tidyshelf/catalogue/BookSort"))) [] ({ frames := 1, cells := 1, slots := 3, locals := 14 } : Room) #[] h0 [] [] (fun v h _ => ∃ a, v = some (.ref a) ∧ Ext h0 h ∧ Arv Z h a kv (.object "com/example/tidy_shelf/tidyshelf/catalogue/BookSort") 3 [.ref t0, .ref t1, .ref t2] .null) := by
  refine own_con (a0 := a0) hEL (plainFor_of_name pn_com_example_tidy_shelf_tidyshelf_catalogue_BookSort) ?_
  intro p e s m below meth c T hs W0
  have ef : entryFrame m #[] 0 = mkF m 0 #[] [] := by first | rfl | (simp [entryFrame, mkF, argsToLocals, Value.category]; done)
  rw [ef]
  refine g_getS W0 dP3_0 (pc' := 3) rfl (hw _ (List.mem_of_getElem? (i := 41) rfl)) (SV.ext O) ?_
  intro T835 W834
  refine g_clone W834 dP3_3 (pc' := 6) rfl (hw _ (List.mem_of_getElem? (i := 43) rfl)) (hw _ (List.mem_of_getElem? (i := 44) rfl)) (hw _ (List.mem_of_getElem? (i := 48) rfl)) (hw _ (List.mem_of_getElem? (i := 46) rfl)) (hw _ (List.mem_of_getElem? (i := 47) rfl)) (hw _ (List.mem_of_getElem? (i := 49) rfl)) (AV.ext O) (EV.ext O) rfl (by decide) (w := 0) (Nat.le_of_eq rfl) (by decide) (cap := 3) (by decide) (by decide) (by decide) ?_
  intro T836 h837 E838 A839 X840 W841
  obtain ⟨a842, g843⟩ : ∃ z, z = h0.size := ⟨_, rfl⟩
  rw [← g843] at A839 X840 ⊢
  refine g_cast W841 dP3_6 (pc' := 9) rfl (hw _ (List.mem_of_getElem? (i := 54) rfl)) (Ins.self X840) ?_
  intro T845 W844
  exact g_aret W844 dP3_9 rfl rfl rfl rfl ⟨a842, rfl, E838, A839⟩
set_option maxRecDepth 65536 in
set_option maxHeartbeats 4000000 in
theorem con_eqnull (l : Launch) (Z : State) (a0 : Array Value) (hw : ∀ d ∈ tables_1, d.before a0 Z = true) (hEL : EW Z a0 consts_1) (x : Addr) (h0 : Heap) :
    Ocon l Z consts_1 (⟨"java/lang/String", "equals", "(Ljava/lang/Object;)Z"⟩ : MethodName) jdk_42_method_66_code 3 (some .boolean) [] ({ frames := 0, cells := 0, slots := 0, locals := 0 } : Room) #[(.ref x), .null] h0 [] [] (fun v h _ => v = some (.int 0) ∧ h0 = h) := by
  refine own_con (a0 := a0) hEL (plainFor_of_name pn_java_lang_String) ?_
  intro p e s m below meth c T hs W0
  have ef : entryFrame m #[(.ref x), .null] 3 = mkF m 0 #[.val (.ref x), .val .null, .unset] [] := by first | rfl | (simp [entryFrame, mkF, argsToLocals, Value.category]; done)
  rw [ef]
  refine g_aloadN W0 dP5_0 (pc' := 1) rfl rfl rfl ?_
  refine g_aloadN W0 dP5_1 (pc' := 2) rfl rfl rfl ?_
  refine g_acY W0 dP5_2 (pc' := 7) rfl rfl (by simp [XT.acmp]) (by decide) (by decide) ?_
  refine g_aloadN W0 dP5_7 (pc' := 8) rfl rfl rfl ?_
  refine g_instN W0 dP5_8 (pc' := 11) rfl ?_
  refine g_ifY W0 dP5_11 (pc' := 54) (teq (by decide : (0 : Int32) = (0 : Int32))).1 (by decide) (by decide) ?_
  refine g_iconst W0 dP5_54 (pc' := 55) rfl (v := 0) rfl ?_
  exact g_iret W0 dP5_55 rfl (Or.inr (Or.inl rfl)) rfl ⟨rfl, rfl⟩
def own_pick (t0 t1 t2 : Addr) (cs : List Int32) : Value := if own_t0 = cs then .ref t0 else if own_t1 = cs then .ref t1 else if own_t2 = cs then .ref t2 else .null
theorem own_weq : ∀ d ∈ StrChars.Road.wordsEq, d ∈ tables_1 := by decide +kernel
set_option maxRecDepth 65536 in
set_option maxHeartbeats 4000000 in
theorem con_named (l : Launch) (Z : State) (a0 : Array Value) (hw : ∀ d ∈ tables_1, d.before a0 Z = true) (hEL : EW Z a0 consts_1) (va t0 t1 t2 q0 q1 q2 : Addr) (kv : ClassId) (zc : Int32) (SV : Sta Z Z.heap "com/example/tidy_shelf/tidyshelf/catalogue/BookSort" "$VALUES" "[Lcom/example/tidy_shelf/tidyshelf/catalogue/BookSort;" (.ref va)) (AV : Arv Z Z.heap va kv (.object "com/example/tidy_shelf/tidyshelf/catalogue/BookSort") 3 [.ref t0, .ref t1, .ref t2] .null) (EV : Exa Z Z.heap va "[Lcom/example/tidy_shelf/tidyshelf/catalogue/BookSort;") (FQ0 : Fld Z Z.heap t0 "com/example/tidy_shelf/tidyshelf/catalogue/BookSort" "queryName" "Ljava/lang/String;" (.ref q0)) (SQ0 : OStr Z Z.heap q0 own_t0) (FQ1 : Fld Z Z.heap t1 "com/example/tidy_shelf/tidyshelf/catalogue/BookSort" "queryName" "Ljava/lang/String;" (.ref q1)) (SQ1 : OStr Z Z.heap q1 own_t1) (FQ2 : Fld Z Z.heap t2 "com/example/tidy_shelf/tidyshelf/catalogue/BookSort" "queryName" "Ljava/lang/String;" (.ref q2)) (SQ2 : OStr Z Z.heap q2 own_t2) (SC : Sta Z Z.heap "java/lang/String" "COMPACT_STRINGS" "Z" (.int zc)) (hzc : ¬ zc = 0) (h0 : Heap) (O : Ext Z.heap h0) (x : Addr) (cs : List Int32) (S : OStr Z h0 x cs) (hl : cs.length ≤ 16) :
    Ocon l Z consts_1 (⟨"com/example/tidy_shelf/tidyshelf/catalogue/BookSort", "named", "(Ljava/lang/String;)Lcom/example/tidy_shelf/tidyshelf/catalogue/BookSort;"⟩ : MethodName) prog_4_method_4_code 6 (some (.object "com/example/tidy_shelf/tidyshelf/catalogue/BookSort")) [] ({ frames := 2, cells := 1, slots := 3, locals := 28 } : Room) #[(.ref x)] h0 [] [] (fun v h _ => v = some (own_pick t0 t1 t2 cs) ∧ Ext h0 h) := by
  refine own_con (a0 := a0) hEL (plainFor_of_name pn_com_example_tidy_shelf_tidyshelf_catalogue_BookSort) ?_
  intro p e s m below meth c T hs W0
  have ef : entryFrame m #[(.ref x)] 6 = mkF m 0 #[.val (.ref x), .unset, .unset, .unset, .unset, .unset] [] := by first | rfl | (simp [entryFrame, mkF, argsToLocals, Value.category]; done)
  rw [ef]
  refine g_aconst_null W0 dP2_0 (pc' := 1) rfl ?_
  refine g_astoreN W0 dP2_1 (pc' := 2) rfl (ls' := #[.val (.ref x), .val .null, .unset, .unset, .unset, .unset]) rfl rfl ?_
  refine g_static W0 dP2_2 (pc' := 5) rfl (hw _ (List.mem_of_getElem? (i := 38) rfl)) (hw _ (List.mem_of_getElem? (i := 39) rfl)) (hw _ (List.mem_of_getElem? (i := 36) rfl)) (hw _ (List.mem_of_getElem? (i := 40) rfl)) (by decide) (con_values l Z a0 hw hEL va t0 t1 t2 q0 q1 q2 kv zc SV AV EV h0 O) pd____Lcom_example_tidy_shelf_tidyshelf_catalogue_BookSort_ (argsL := []) (st := []) rfl rfl rfl rfl (by decide) (w := 0) (Nat.le_of_eq rfl) (by decide) (by decide) (by decide) (by simp) (fun q hq => nomatch hq) ?_
  intro v848 T849 h850 S853 q851 W854
  have W852 := W854.sf (SF' := []) (fun _ hx => List.mem_append_right _ hx)
  obtain ⟨a855, rfl, X856, A857⟩ := q851
  have O2 := own_ext_tr O X856
  refine g_astoreN W852 dP2_5 (pc' := 6) rfl (ls' := #[.val (.ref x), .val .null, .val (.ref a855), .unset, .unset, .unset]) rfl rfl ?_
  refine g_aloadN W852 dP2_6 (pc' := 7) rfl rfl rfl ?_
  refine g_alen W852 dP2_7 (pc' := 8) rfl A857 ?_
  refine g_istoreN W852 dP2_8 (pc' := 9) rfl (ls' := #[.val (.ref x), .val .null, .val (.ref a855), .val (.int (3 : Int32)), .unset, .unset]) rfl ?_
  refine g_iconst W852 dP2_9 (pc' := 10) rfl (v := 0) rfl ?_
  refine g_istore W852 dP2_10 (pc' := 12) rfl (ls' := #[.val (.ref x), .val .null, .val (.ref a855), .val (.int (3 : Int32)), .val (.int (0 : Int32)), .unset]) rfl ?_
  refine g_iload W852 dP2_12 (pc' := 14) rfl rfl ?_
  refine g_iloadN W852 dP2_14 (pc' := 15) rfl rfl ?_
  refine g_icN W852 dP2_15 (pc' := 18) (tlt (by decide : (0 : Int32) < (3 : Int32))).2.1 rfl ?_
  refine g_aloadN W852 dP2_18 (pc' := 19) rfl rfl rfl ?_
  refine g_iload W852 dP2_19 (pc' := 21) rfl rfl ?_
  refine g_aaload W852 dP2_21 (pc' := 22) rfl A857 rfl (i := 0) rfl (by decide) (v := (.ref t0)) rfl ?_
  refine g_astore W852 dP2_22 (pc' := 24) rfl (ls' := #[.val (.ref x), .val .null, .val (.ref a855), .val (.int (3 : Int32)), .val (.int (0 : Int32)), .val (.ref t0)]) rfl rfl ?_
  refine g_aload W852 dP2_24 (pc' := 26) rfl rfl rfl ?_
  refine g_getF W852 dP2_26 (pc' := 29) rfl (hw _ (List.mem_of_getElem? (i := 56) rfl)) (FQ0.ext O2) ?_
  intro T859 W858
  refine g_aloadN W858 dP2_29 (pc' := 30) rfl rfl rfl ?_
  obtain ⟨u864_E, u865_B, u866_t, u867_k, u868_c, u869_N, u870_v, u871_V, u872_C, u873_A, u874_D⟩ := ((SQ0.ext O2))
  obtain ⟨u875_E, u876_B, u877_t, u878_k, u879_c, u880_N, u881_v, u882_V, u883_C, u884_A, u885_D⟩ := ((S.ext X856))
  refine g_virtualB W858 dP2_30 (pc' := 33) (C := "java/lang/String") rfl (hw _ (List.mem_of_getElem? (i := 58) rfl)) (hw _ (List.mem_of_getElem? (i := 59) rfl)) (hw _ (List.mem_of_getElem? (i := 61) rfl)) (hw _ (List.mem_of_getElem? (i := 61) rfl)) (hw _ (List.mem_of_getElem? (i := 60) rfl)) (by decide) u864_E (fun vm0 hZ0 => StrChars.Road.eqW (s := s.setVm vm0) (W := 0) hZ0 (fun d hd => hw d (own_weq d hd)) (hw _ (List.mem_of_getElem? (i := 6) rfl)) u864_E u871_V u872_C u873_A u874_D u865_B (by decide) u875_E u882_V u883_C u884_A u885_D u876_B (by omega) (SC.ext O2) hzc (by decide) (by decide)) pd__Ljava_lang_Object__Z (argsL := [(.ref x)]) (st := []) rfl rfl rfl rfl (Nat.le_of_eq rfl) ?_
  intro v860 T861 q862 W863
  rcases q862 with ⟨rfl, e886⟩ | ⟨rfl, e886⟩
  · skip
    refine g_ifN W863 dP2_33 (pc' := 36) (feq (by decide : ¬ ((1 : Int32) = (0 : Int32)))).1 rfl ?_
    refine g_aload W863 dP2_36 (pc' := 38) rfl rfl rfl ?_
    refine g_astoreN W863 dP2_38 (pc' := 39) rfl (ls' := #[.val (.ref x), .val (.ref t0), .val (.ref a855), .val (.int (3 : Int32)), .val (.int (0 : Int32)), .val (.ref t0)]) rfl rfl ?_
    refine g_goto W863 dP2_39 (pc' := 48) (by decide) (by decide) ?_
    refine g_aloadN W863 dP2_48 (pc' := 49) rfl rfl rfl ?_
    exact g_aret W863 dP2_49 rfl rfl rfl rfl ⟨by simp [own_pick, e886], X856⟩
  · skip
    refine g_ifY W863 dP2_33 (pc' := 42) (teq (by decide : (0 : Int32) = (0 : Int32))).1 (by decide) (by decide) ?_
    refine g_iinc W863 dP2_42 (pc' := 45) rfl (v := (1 : Int32)) (ls' := #[.val (.ref x), .val .null, .val (.ref a855), .val (.int (3 : Int32)), .val (.int (1 : Int32)), .val (.ref t0)]) rfl (by decide) rfl ?_
    refine g_goto W863 dP2_45 (pc' := 12) (by decide) (by decide) ?_
    refine g_iload W863 dP2_12 (pc' := 14) rfl rfl ?_
    refine g_iloadN W863 dP2_14 (pc' := 15) rfl rfl ?_
    refine g_icN W863 dP2_15 (pc' := 18) (tlt (by decide : (1 : Int32) < (3 : Int32))).2.1 rfl ?_
    refine g_aloadN W863 dP2_18 (pc' := 19) rfl rfl rfl ?_
    refine g_iload W863 dP2_19 (pc' := 21) rfl rfl ?_
    refine g_aaload W863 dP2_21 (pc' := 22) rfl A857 rfl (i := 1) rfl (by decide) (v := (.ref t1)) rfl ?_
    refine g_astore W863 dP2_22 (pc' := 24) rfl (ls' := #[.val (.ref x), .val .null, .val (.ref a855), .val (.int (3 : Int32)), .val (.int (1 : Int32)), .val (.ref t1)]) rfl rfl ?_
    refine g_aload W863 dP2_24 (pc' := 26) rfl rfl rfl ?_
    refine g_getF W863 dP2_26 (pc' := 29) rfl (hw _ (List.mem_of_getElem? (i := 56) rfl)) (FQ1.ext O2) ?_
    intro T888 W887
    refine g_aloadN W887 dP2_29 (pc' := 30) rfl rfl rfl ?_
    obtain ⟨u893_E, u894_B, u895_t, u896_k, u897_c, u898_N, u899_v, u900_V, u901_C, u902_A, u903_D⟩ := ((SQ1.ext O2))
    obtain ⟨u904_E, u905_B, u906_t, u907_k, u908_c, u909_N, u910_v, u911_V, u912_C, u913_A, u914_D⟩ := ((S.ext X856))
    refine g_virtualB W887 dP2_30 (pc' := 33) (C := "java/lang/String") rfl (hw _ (List.mem_of_getElem? (i := 58) rfl)) (hw _ (List.mem_of_getElem? (i := 59) rfl)) (hw _ (List.mem_of_getElem? (i := 61) rfl)) (hw _ (List.mem_of_getElem? (i := 61) rfl)) (hw _ (List.mem_of_getElem? (i := 60) rfl)) (by decide) u893_E (fun vm0 hZ0 => StrChars.Road.eqW (s := s.setVm vm0) (W := 0) hZ0 (fun d hd => hw d (own_weq d hd)) (hw _ (List.mem_of_getElem? (i := 6) rfl)) u893_E u900_V u901_C u902_A u903_D u894_B (by decide) u904_E u911_V u912_C u913_A u914_D u905_B (by omega) (SC.ext O2) hzc (by decide) (by decide)) pd__Ljava_lang_Object__Z (argsL := [(.ref x)]) (st := []) rfl rfl rfl rfl (Nat.le_of_eq rfl) ?_
    intro v889 T890 q891 W892
    rcases q891 with ⟨rfl, e915⟩ | ⟨rfl, e915⟩
    · skip
      refine g_ifN W892 dP2_33 (pc' := 36) (feq (by decide : ¬ ((1 : Int32) = (0 : Int32)))).1 rfl ?_
      refine g_aload W892 dP2_36 (pc' := 38) rfl rfl rfl ?_
      refine g_astoreN W892 dP2_38 (pc' := 39) rfl (ls' := #[.val (.ref x), .val (.ref t1), .val (.ref a855), .val (.int (3 : Int32)), .val (.int (1 : Int32)), .val (.ref t1)]) rfl rfl ?_
      refine g_goto W892 dP2_39 (pc' := 48) (by decide) (by decide) ?_
      refine g_aloadN W892 dP2_48 (pc' := 49) rfl rfl rfl ?_
      exact g_aret W892 dP2_49 rfl rfl rfl rfl ⟨by simp [own_pick, e886, e915], X856⟩
    · skip
      refine g_ifY W892 dP2_33 (pc' := 42) (teq (by decide : (0 : Int32) = (0 : Int32))).1 (by decide) (by decide) ?_
      refine g_iinc W892 dP2_42 (pc' := 45) rfl (v := (2 : Int32)) (ls' := #[.val (.ref x), .val .null, .val (.ref a855), .val (.int (3 : Int32)), .val (.int (2 : Int32)), .val (.ref t1)]) rfl (by decide) rfl ?_
      refine g_goto W892 dP2_45 (pc' := 12) (by decide) (by decide) ?_
      refine g_iload W892 dP2_12 (pc' := 14) rfl rfl ?_
      refine g_iloadN W892 dP2_14 (pc' := 15) rfl rfl ?_
      refine g_icN W892 dP2_15 (pc' := 18) (tlt (by decide : (2 : Int32) < (3 : Int32))).2.1 rfl ?_
      refine g_aloadN W892 dP2_18 (pc' := 19) rfl rfl rfl ?_
      refine g_iload W892 dP2_19 (pc' := 21) rfl rfl ?_
      refine g_aaload W892 dP2_21 (pc' := 22) rfl A857 rfl (i := 2) rfl (by decide) (v := (.ref t2)) rfl ?_
      refine g_astore W892 dP2_22 (pc' := 24) rfl (ls' := #[.val (.ref x), .val .null, .val (.ref a855), .val (.int (3 : Int32)), .val (.int (2 : Int32)), .val (.ref t2)]) rfl rfl ?_
      refine g_aload W892 dP2_24 (pc' := 26) rfl rfl rfl ?_
      refine g_getF W892 dP2_26 (pc' := 29) rfl (hw _ (List.mem_of_getElem? (i := 56) rfl)) (FQ2.ext O2) ?_
      intro T917 W916
      refine g_aloadN W916 dP2_29 (pc' := 30) rfl rfl rfl ?_
      obtain ⟨u922_E, u923_B, u924_t, u925_k, u926_c, u927_N, u928_v, u929_V, u930_C, u931_A, u932_D⟩ := ((SQ2.ext O2))
      obtain ⟨u933_E, u934_B, u935_t, u936_k, u937_c, u938_N, u939_v, u940_V, u941_C, u942_A, u943_D⟩ := ((S.ext X856))
      refine g_virtualB W916 dP2_30 (pc' := 33) (C := "java/lang/String") rfl (hw _ (List.mem_of_getElem? (i := 58) rfl)) (hw _ (List.mem_of_getElem? (i := 59) rfl)) (hw _ (List.mem_of_getElem? (i := 61) rfl)) (hw _ (List.mem_of_getElem? (i := 61) rfl)) (hw _ (List.mem_of_getElem? (i := 60) rfl)) (by decide) u922_E (fun vm0 hZ0 => StrChars.Road.eqW (s := s.setVm vm0) (W := 0) hZ0 (fun d hd => hw d (own_weq d hd)) (hw _ (List.mem_of_getElem? (i := 6) rfl)) u922_E u929_V u930_C u931_A u932_D u923_B (by decide) u933_E u940_V u941_C u942_A u943_D u934_B (by omega) (SC.ext O2) hzc (by decide) (by decide)) pd__Ljava_lang_Object__Z (argsL := [(.ref x)]) (st := []) rfl rfl rfl rfl (Nat.le_of_eq rfl) ?_
      intro v918 T919 q920 W921
      rcases q920 with ⟨rfl, e944⟩ | ⟨rfl, e944⟩
      · skip
        refine g_ifN W921 dP2_33 (pc' := 36) (feq (by decide : ¬ ((1 : Int32) = (0 : Int32)))).1 rfl ?_
        refine g_aload W921 dP2_36 (pc' := 38) rfl rfl rfl ?_
        refine g_astoreN W921 dP2_38 (pc' := 39) rfl (ls' := #[.val (.ref x), .val (.ref t2), .val (.ref a855), .val (.int (3 : Int32)), .val (.int (2 : Int32)), .val (.ref t2)]) rfl rfl ?_
        refine g_goto W921 dP2_39 (pc' := 48) (by decide) (by decide) ?_
        refine g_aloadN W921 dP2_48 (pc' := 49) rfl rfl rfl ?_
        exact g_aret W921 dP2_49 rfl rfl rfl rfl ⟨by simp [own_pick, e886, e915, e944], X856⟩
      · skip
        refine g_ifY W921 dP2_33 (pc' := 42) (teq (by decide : (0 : Int32) = (0 : Int32))).1 (by decide) (by decide) ?_
        refine g_iinc W921 dP2_42 (pc' := 45) rfl (v := (3 : Int32)) (ls' := #[.val (.ref x), .val .null, .val (.ref a855), .val (.int (3 : Int32)), .val (.int (3 : Int32)), .val (.ref t2)]) rfl (by decide) rfl ?_
        refine g_goto W921 dP2_45 (pc' := 12) (by decide) (by decide) ?_
        refine g_iload W921 dP2_12 (pc' := 14) rfl rfl ?_
        refine g_iloadN W921 dP2_14 (pc' := 15) rfl rfl ?_
        refine g_icY W921 dP2_15 (pc' := 48) (flt (by decide : ¬ ((3 : Int32) < (3 : Int32)))).2.1 (by decide) (by decide) ?_
        refine g_aloadN W921 dP2_48 (pc' := 49) rfl rfl rfl ?_
        exact g_aret W921 dP2_49 rfl rfl rfl rfl ⟨by simp [own_pick, e886, e915, e944], X856⟩
set_option maxRecDepth 65536 in
set_option maxHeartbeats 4000000 in
theorem con_named0 (l : Launch) (Z : State) (a0 : Array Value) (hw : ∀ d ∈ tables_1, d.before a0 Z = true) (hEL : EW Z a0 consts_1) (va t0 t1 t2 q0 q1 q2 : Addr) (kv : ClassId) (zc : Int32) (SV : Sta Z Z.heap "com/example/tidy_shelf/tidyshelf/catalogue/BookSort" "$VALUES" "[Lcom/example/tidy_shelf/tidyshelf/catalogue/BookSort;" (.ref va)) (AV : Arv Z Z.heap va kv (.object "com/example/tidy_shelf/tidyshelf/catalogue/BookSort") 3 [.ref t0, .ref t1, .ref t2] .null) (EV : Exa Z Z.heap va "[Lcom/example/tidy_shelf/tidyshelf/catalogue/BookSort;") (FQ0 : Fld Z Z.heap t0 "com/example/tidy_shelf/tidyshelf/catalogue/BookSort" "queryName" "Ljava/lang/String;" (.ref q0)) (SQ0 : OStr Z Z.heap q0 own_t0) (FQ1 : Fld Z Z.heap t1 "com/example/tidy_shelf/tidyshelf/catalogue/BookSort" "queryName" "Ljava/lang/String;" (.ref q1)) (SQ1 : OStr Z Z.heap q1 own_t1) (FQ2 : Fld Z Z.heap t2 "com/example/tidy_shelf/tidyshelf/catalogue/BookSort" "queryName" "Ljava/lang/String;" (.ref q2)) (SQ2 : OStr Z Z.heap q2 own_t2) (SC : Sta Z Z.heap "java/lang/String" "COMPACT_STRINGS" "Z" (.int zc)) (hzc : ¬ zc = 0) (h0 : Heap) (O : Ext Z.heap h0)  :
    Ocon l Z consts_1 (⟨"com/example/tidy_shelf/tidyshelf/catalogue/BookSort", "named", "(Ljava/lang/String;)Lcom/example/tidy_shelf/tidyshelf/catalogue/BookSort;"⟩ : MethodName) prog_4_method_4_code 6 (some (.object "com/example/tidy_shelf/tidyshelf/catalogue/BookSort")) [] ({ frames := 2, cells := 1, slots := 3, locals := 28 } : Room) #[.null] h0 [] [] (fun v h _ => v = some (.null) ∧ Ext h0 h) := by
  refine own_con (a0 := a0) hEL (plainFor_of_name pn_com_example_tidy_shelf_tidyshelf_catalogue_BookSort) ?_
  intro p e s m below meth c T hs W0
  have ef : entryFrame m #[.null] 6 = mkF m 0 #[.val .null, .unset, .unset, .unset, .unset, .unset] [] := by first | rfl | (simp [entryFrame, mkF, argsToLocals, Value.category]; done)
  rw [ef]
  refine g_aconst_null W0 dP2_0 (pc' := 1) rfl ?_
  refine g_astoreN W0 dP2_1 (pc' := 2) rfl (ls' := #[.val .null, .val .null, .unset, .unset, .unset, .unset]) rfl rfl ?_
  refine g_static W0 dP2_2 (pc' := 5) rfl (hw _ (List.mem_of_getElem? (i := 38) rfl)) (hw _ (List.mem_of_getElem? (i := 39) rfl)) (hw _ (List.mem_of_getElem? (i := 36) rfl)) (hw _ (List.mem_of_getElem? (i := 40) rfl)) (by decide) (con_values l Z a0 hw hEL va t0 t1 t2 q0 q1 q2 kv zc SV AV EV h0 O) pd____Lcom_example_tidy_shelf_tidyshelf_catalogue_BookSort_ (argsL := []) (st := []) rfl rfl rfl rfl (by decide) (w := 0) (Nat.le_of_eq rfl) (by decide) (by decide) (by decide) (by simp) (fun q hq => nomatch hq) ?_
  intro v945 T946 h947 S950 q948 W951
  have W949 := W951.sf (SF' := []) (fun _ hx => List.mem_append_right _ hx)
  obtain ⟨a952, rfl, X953, A954⟩ := q948
  have O2 := own_ext_tr O X953
  refine g_astoreN W949 dP2_5 (pc' := 6) rfl (ls' := #[.val .null, .val .null, .val (.ref a952), .unset, .unset, .unset]) rfl rfl ?_
  refine g_aloadN W949 dP2_6 (pc' := 7) rfl rfl rfl ?_
  refine g_alen W949 dP2_7 (pc' := 8) rfl A954 ?_
  refine g_istoreN W949 dP2_8 (pc' := 9) rfl (ls' := #[.val .null, .val .null, .val (.ref a952), .val (.int (3 : Int32)), .unset, .unset]) rfl ?_
  refine g_iconst W949 dP2_9 (pc' := 10) rfl (v := 0) rfl ?_
  refine g_istore W949 dP2_10 (pc' := 12) rfl (ls' := #[.val .null, .val .null, .val (.ref a952), .val (.int (3 : Int32)), .val (.int (0 : Int32)), .unset]) rfl ?_
  refine g_iload W949 dP2_12 (pc' := 14) rfl rfl ?_
  refine g_iloadN W949 dP2_14 (pc' := 15) rfl rfl ?_
  refine g_icN W949 dP2_15 (pc' := 18) (tlt (by decide : (0 : Int32) < (3 : Int32))).2.1 rfl ?_
  refine g_aloadN W949 dP2_18 (pc' := 19) rfl rfl rfl ?_
  refine g_iload W949 dP2_19 (pc' := 21) rfl rfl ?_
  refine g_aaload W949 dP2_21 (pc' := 22) rfl A954 rfl (i := 0) rfl (by decide) (v := (.ref t0)) rfl ?_
  refine g_astore W949 dP2_22 (pc' := 24) rfl (ls' := #[.val .null, .val .null, .val (.ref a952), .val (.int (3 : Int32)), .val (.int (0 : Int32)), .val (.ref t0)]) rfl rfl ?_
  refine g_aload W949 dP2_24 (pc' := 26) rfl rfl rfl ?_
  refine g_getF W949 dP2_26 (pc' := 29) rfl (hw _ (List.mem_of_getElem? (i := 56) rfl)) (FQ0.ext O2) ?_
  intro T956 W955
  refine g_aloadN W955 dP2_29 (pc' := 30) rfl rfl rfl ?_
  refine g_virtual W955 dP2_30 (pc' := 33) (C := "java/lang/String") rfl (hw _ (List.mem_of_getElem? (i := 58) rfl)) (hw _ (List.mem_of_getElem? (i := 59) rfl)) (hw _ (List.mem_of_getElem? (i := 61) rfl)) (hw _ (List.mem_of_getElem? (i := 61) rfl)) (hw _ (List.mem_of_getElem? (i := 60) rfl)) (hw _ (List.mem_of_getElem? (i := 7) rfl)) (hw _ (List.mem_of_getElem? (i := 62) rfl)) (by decide) (SQ0.ext O2).1 (con_eqnull l Z a0 hw hEL q0 h947) pd__Ljava_lang_Object__Z (argsL := [.null]) (st := []) rfl rfl rfl rfl (by decide) (w := 0) (Nat.le_of_eq rfl) (by decide) (by decide) (by decide) (by simp) (fun q hq => nomatch hq) ?_
  intro v957 T958 h959 S962 q960 W963
  have W961 := W963.sf (SF' := []) (fun _ hx => List.mem_append_right _ hx)
  obtain ⟨rfl, rfl⟩ := q960
  refine g_ifY W961 dP2_33 (pc' := 42) (teq (by decide : (0 : Int32) = (0 : Int32))).1 (by decide) (by decide) ?_
  refine g_iinc W961 dP2_42 (pc' := 45) rfl (v := (1 : Int32)) (ls' := #[.val .null, .val .null, .val (.ref a952), .val (.int (3 : Int32)), .val (.int (1 : Int32)), .val (.ref t0)]) rfl (by decide) rfl ?_
  refine g_goto W961 dP2_45 (pc' := 12) (by decide) (by decide) ?_
  refine g_iload W961 dP2_12 (pc' := 14) rfl rfl ?_
  refine g_iloadN W961 dP2_14 (pc' := 15) rfl rfl ?_
  refine g_icN W961 dP2_15 (pc' := 18) (tlt (by decide : (1 : Int32) < (3 : Int32))).2.1 rfl ?_
  refine g_aloadN W961 dP2_18 (pc' := 19) rfl rfl rfl ?_
  refine g_iload W961 dP2_19 (pc' := 21) rfl rfl ?_
  refine g_aaload W961 dP2_21 (pc' := 22) rfl A954 rfl (i := 1) rfl (by decide) (v := (.ref t1)) rfl ?_
  refine g_astore W961 dP2_22 (pc' := 24) rfl (ls' := #[.val .null, .val .null, .val (.ref a952), .val (.int (3 : Int32)), .val (.int (1 : Int32)), .val (.ref t1)]) rfl rfl ?_
  refine g_aload W961 dP2_24 (pc' := 26) rfl rfl rfl ?_
  refine g_getF W961 dP2_26 (pc' := 29) rfl (hw _ (List.mem_of_getElem? (i := 56) rfl)) (FQ1.ext O2) ?_
  intro T965 W964
  refine g_aloadN W964 dP2_29 (pc' := 30) rfl rfl rfl ?_
  refine g_virtual W964 dP2_30 (pc' := 33) (C := "java/lang/String") rfl (hw _ (List.mem_of_getElem? (i := 58) rfl)) (hw _ (List.mem_of_getElem? (i := 59) rfl)) (hw _ (List.mem_of_getElem? (i := 61) rfl)) (hw _ (List.mem_of_getElem? (i := 61) rfl)) (hw _ (List.mem_of_getElem? (i := 60) rfl)) (hw _ (List.mem_of_getElem? (i := 7) rfl)) (hw _ (List.mem_of_getElem? (i := 62) rfl)) (by decide) (SQ1.ext O2).1 (con_eqnull l Z a0 hw hEL q1 h947) pd__Ljava_lang_Object__Z (argsL := [.null]) (st := []) rfl rfl rfl rfl (by decide) (w := 0) (Nat.le_of_eq rfl) (by decide) (by decide) (by decide) (by simp) (fun q hq => nomatch hq) ?_
  intro v966 T967 h968 S971 q969 W972
  have W970 := W972.sf (SF' := []) (fun _ hx => List.mem_append_right _ hx)
  obtain ⟨rfl, rfl⟩ := q969
  refine g_ifY W970 dP2_33 (pc' := 42) (teq (by decide : (0 : Int32) = (0 : Int32))).1 (by decide) (by decide) ?_
  refine g_iinc W970 dP2_42 (pc' := 45) rfl (v := (2 : Int32)) (ls' := #[.val .null, .val .null, .val (.ref a952), .val (.int (3 : Int32)), .val (.int (2 : Int32)), .val (.ref t1)]) rfl (by decide) rfl ?_
  refine g_goto W970 dP2_45 (pc' := 12) (by decide) (by decide) ?_
  refine g_iload W970 dP2_12 (pc' := 14) rfl rfl ?_
  refine g_iloadN W970 dP2_14 (pc' := 15) rfl rfl ?_
  refine g_icN W970 dP2_15 (pc' := 18) (tlt (by decide : (2 : Int32) < (3 : Int32))).2.1 rfl ?_
  refine g_aloadN W970 dP2_18 (pc' := 19) rfl rfl rfl ?_
  refine g_iload W970 dP2_19 (pc' := 21) rfl rfl ?_
  refine g_aaload W970 dP2_21 (pc' := 22) rfl A954 rfl (i := 2) rfl (by decide) (v := (.ref t2)) rfl ?_
  refine g_astore W970 dP2_22 (pc' := 24) rfl (ls' := #[.val .null, .val .null, .val (.ref a952), .val (.int (3 : Int32)), .val (.int (2 : Int32)), .val (.ref t2)]) rfl rfl ?_
  refine g_aload W970 dP2_24 (pc' := 26) rfl rfl rfl ?_
  refine g_getF W970 dP2_26 (pc' := 29) rfl (hw _ (List.mem_of_getElem? (i := 56) rfl)) (FQ2.ext O2) ?_
  intro T974 W973
  refine g_aloadN W973 dP2_29 (pc' := 30) rfl rfl rfl ?_
  refine g_virtual W973 dP2_30 (pc' := 33) (C := "java/lang/String") rfl (hw _ (List.mem_of_getElem? (i := 58) rfl)) (hw _ (List.mem_of_getElem? (i := 59) rfl)) (hw _ (List.mem_of_getElem? (i := 61) rfl)) (hw _ (List.mem_of_getElem? (i := 61) rfl)) (hw _ (List.mem_of_getElem? (i := 60) rfl)) (hw _ (List.mem_of_getElem? (i := 7) rfl)) (hw _ (List.mem_of_getElem? (i := 62) rfl)) (by decide) (SQ2.ext O2).1 (con_eqnull l Z a0 hw hEL q2 h947) pd__Ljava_lang_Object__Z (argsL := [.null]) (st := []) rfl rfl rfl rfl (by decide) (w := 0) (Nat.le_of_eq rfl) (by decide) (by decide) (by decide) (by simp) (fun q hq => nomatch hq) ?_
  intro v975 T976 h977 S980 q978 W981
  have W979 := W981.sf (SF' := []) (fun _ hx => List.mem_append_right _ hx)
  obtain ⟨rfl, rfl⟩ := q978
  refine g_ifY W979 dP2_33 (pc' := 42) (teq (by decide : (0 : Int32) = (0 : Int32))).1 (by decide) (by decide) ?_
  refine g_iinc W979 dP2_42 (pc' := 45) rfl (v := (3 : Int32)) (ls' := #[.val .null, .val .null, .val (.ref a952), .val (.int (3 : Int32)), .val (.int (3 : Int32)), .val (.ref t2)]) rfl (by decide) rfl ?_
  refine g_goto W979 dP2_45 (pc' := 12) (by decide) (by decide) ?_
  refine g_iload W979 dP2_12 (pc' := 14) rfl rfl ?_
  refine g_iloadN W979 dP2_14 (pc' := 15) rfl rfl ?_
  refine g_icY W979 dP2_15 (pc' := 48) (flt (by decide : ¬ ((3 : Int32) < (3 : Int32)))).2.1 (by decide) (by decide) ?_
  refine g_aloadN W979 dP2_48 (pc' := 49) rfl rfl rfl ?_
  exact g_aret W979 dP2_49 rfl rfl rfl rfl ⟨rfl, X953⟩
def own_txt0 : String := own_text 71
theorem own_ht0 : (∀ c ∈ own_txt0.toList, c.toNat < 256) ∧ own_txt0.toList.map (fun c => Value.int (Jvm.Lit.byteI c.toNat.toUInt16)) = own_t0.map fun c => Value.int (StrChars.lo8 c) := ⟨by decide +kernel, by decide +kernel⟩
theorem own_hn0 : 4 * own_txt0.toList.length ≤ 20 := by decide +kernel
theorem own_hb0 : ∀ c ∈ own_t0, ¬ c < 0 ∧ ¬ (65535 : Int32) < c := by decide +kernel
theorem own_hc0 : ∀ c ∈ own_t0, ¬ (255 : Int32) < c := by decide +kernel
def own_txt1 : String := own_text 76
theorem own_ht1 : (∀ c ∈ own_txt1.toList, c.toNat < 256) ∧ own_txt1.toList.map (fun c => Value.int (Jvm.Lit.byteI c.toNat.toUInt16)) = own_t1.map fun c => Value.int (StrChars.lo8 c) := ⟨by decide +kernel, by decide +kernel⟩
theorem own_hn1 : 4 * own_txt1.toList.length ≤ 52 := by decide +kernel
theorem own_hb1 : ∀ c ∈ own_t1, ¬ c < 0 ∧ ¬ (65535 : Int32) < c := by decide +kernel
theorem own_hc1 : ∀ c ∈ own_t1, ¬ (255 : Int32) < c := by decide +kernel
def own_txt2 : String := own_text 77
theorem own_ht2 : (∀ c ∈ own_txt2.toList, c.toNat < 256) ∧ own_txt2.toList.map (fun c => Value.int (Jvm.Lit.byteI c.toNat.toUInt16)) = own_t2.map fun c => Value.int (StrChars.lo8 c) := ⟨by decide +kernel, by decide +kernel⟩
theorem own_hn2 : 4 * own_txt2.toList.length ≤ 60 := by decide +kernel
theorem own_hb2 : ∀ c ∈ own_t2, ¬ c < 0 ∧ ¬ (65535 : Int32) < c := by decide +kernel
theorem own_hc2 : ∀ c ∈ own_t2, ¬ (255 : Int32) < c := by decide +kernel
theorem own_pick_cat (t0 t1 t2 : Addr) (cs : List Int32) : (own_pick t0 t1 t2 cs).category = 1 := by unfold own_pick; split; rfl; split; rfl; split <;> rfl
theorem own_pick_ref (t0 t1 t2 : Addr) (cs : List Int32) : (own_pick t0 t1 t2 cs).isRef = true := by unfold own_pick; split; rfl; split; rfl; split <;> rfl
set_option maxRecDepth 65536 in
set_option maxHeartbeats 4000000 in
theorem con_exp (l : Launch) (Z : State) (a0 : Array Value) (hw : ∀ d ∈ tables_1, d.before a0 Z = true) (hEL : EW Z a0 consts_1) (t0 t1 t2 : Addr) (zc : Int32) (ST0 : Sta Z Z.heap "com/example/tidy_shelf/tidyshelf/catalogue/BookSort" "TITLE" "Lcom/example/tidy_shelf/tidyshelf/catalogue/BookSort;" (.ref t0)) (ST1 : Sta Z Z.heap "com/example/tidy_shelf/tidyshelf/catalogue/BookSort" "PUBLISHED_DATE" "Lcom/example/tidy_shelf/tidyshelf/catalogue/BookSort;" (.ref t1)) (ST2 : Sta Z Z.heap "com/example/tidy_shelf/tidyshelf/catalogue/BookSort" "AVAILABLE_COPIES" "Lcom/example/tidy_shelf/tidyshelf/catalogue/BookSort;" (.ref t2)) (SC : Sta Z Z.heap "java/lang/String" "COMPACT_STRINGS" "Z" (.int zc)) (hzc : ¬ zc = 0) (h0 : Heap) (O : Ext Z.heap h0) (x : Addr) (cs : List Int32) (S : OStr Z h0 x cs) (hl : cs.length ≤ 16) :
    Ocon l Z consts_1 (⟨"com/example/tidy_shelf/tidyshelf/catalogue/BookSortNamedPinLaw", "expected", "(Ljava/lang/String;)Lcom/example/tidy_shelf/tidyshelf/catalogue/BookSort;"⟩ : MethodName) method_3_code 1 (some (.object "com/example/tidy_shelf/tidyshelf/catalogue/BookSort")) [] ({ frames := 2, cells := 6, slots := 144, locals := 28 } : Room) #[(.ref x)] h0 [] [] (fun v h _ => v = some (own_pick t0 t1 t2 cs) ∧ Ext h0 h) := by
  refine own_con (a0 := a0) hEL (plainFor_of_name pn_com_example_tidy_shelf_tidyshelf_catalogue_BookSortNamedPinLaw) ?_
  intro p e s m below meth c T hs W0
  have ef : entryFrame m #[(.ref x)] 1 = mkF m 0 #[.val (.ref x)] [] := by first | rfl | (simp [entryFrame, mkF, argsToLocals, Value.category]; done)
  rw [ef]
  have hSt : ∀ a ∈ Bundle.stringAtoms, a.before a0 Z = true := own_str hw
  refine g_aloadN W0 dP4_0 (pc' := 1) rfl rfl rfl ?_
  refine g_nnY W0 dP4_1 (pc' := 6) (by decide) (by decide) ?_
  refine g_aloadN W0 dP4_6 (pc' := 7) rfl rfl rfl ?_
  refine g_ldcS W0 dP4_7 (pc' := 9) (text := own_txt0) (vs := own_t0.map fun c => Value.int (StrChars.lo8 c)) (z := 5) (n := 20) rfl (hw _ (List.mem_of_getElem? (i := 71) rfl)) hSt (by decide) own_ht0 (by decide) rfl own_hn0 (by decide) (by decide) (by decide) ?_
  intro T982 h983 a984 b985 k986 E987 f988 f989 f990 f991 W992
  have X993 := own_ext_tr (own_ext_rf h0) E987
  obtain ⟨u998_E, u999_B, u1000_t, u1001_k, u1002_c, u1003_N, u1004_v, u1005_V, u1006_C, u1007_A, u1008_D⟩ := ((S.ext X993))
  obtain ⟨u1009_E, u1010_B, u1011_t, u1012_k, u1013_c, u1014_N, u1015_v, u1016_V, u1017_C, u1018_A, u1019_D⟩ := ((⟨f988, own_hb0, b985, k986, 0, _, _, f990, f989, f991, Or.inl ⟨rfl, rfl, rfl, own_hc0⟩⟩ : OStr Z h983 a984 own_t0))
  refine g_virtualB W992 dP4_9 (pc' := 12) (C := "java/lang/String") rfl (hw _ (List.mem_of_getElem? (i := 74) rfl)) (hw _ (List.mem_of_getElem? (i := 59) rfl)) (hw _ (List.mem_of_getElem? (i := 61) rfl)) (hw _ (List.mem_of_getElem? (i := 61) rfl)) (hw _ (List.mem_of_getElem? (i := 60) rfl)) (by decide) u998_E (fun vm0 hZ0 => StrChars.Road.eqW (s := s.setVm vm0) (W := 0) hZ0 (fun d hd => hw d (own_weq d hd)) (hw _ (List.mem_of_getElem? (i := 6) rfl)) u998_E u1005_V u1006_C u1007_A u1008_D u999_B (by omega) u1009_E u1016_V u1017_C u1018_A u1019_D u1010_B (by decide) (SC.ext (own_ext_tr O X993)) hzc (by decide) (by decide)) pd__Ljava_lang_Object__Z (argsL := [(.ref a984)]) (st := []) rfl rfl rfl rfl (Nat.le_of_eq rfl) ?_
  intro v994 T995 q996 W997
  rcases q996 with ⟨rfl, e1020⟩ | ⟨rfl, e1020⟩
  · skip
    refine g_ifN W997 dP4_12 (pc' := 15) (feq (by decide : ¬ ((1 : Int32) = (0 : Int32)))).1 rfl ?_
    refine g_getS W997 dP4_15 (pc' := 18) rfl (hw _ (List.mem_of_getElem? (i := 75) rfl)) (ST0.ext (own_ext_tr O X993)) ?_
    intro T1022 W1021
    exact g_aret W1021 dP4_18 rfl rfl rfl rfl ⟨by unfold own_pick; rw [if_pos e1020.symm], X993⟩
  · skip
    refine g_ifY W997 dP4_12 (pc' := 19) (teq (by decide : (0 : Int32) = (0 : Int32))).1 (by decide) (by decide) ?_
    refine g_aloadN W997 dP4_19 (pc' := 20) rfl rfl rfl ?_
    refine g_ldcS W997 dP4_20 (pc' := 22) (text := own_txt1) (vs := own_t1.map fun c => Value.int (StrChars.lo8 c)) (z := 13) (n := 52) rfl (hw _ (List.mem_of_getElem? (i := 76) rfl)) hSt (by decide) own_ht1 (by decide) rfl own_hn1 (by decide) (by decide) (by decide) ?_
    intro T1023 h1024 a1025 b1026 k1027 E1028 f1029 f1030 f1031 f1032 W1033
    have X1034 := own_ext_tr X993 E1028
    obtain ⟨u1039_E, u1040_B, u1041_t, u1042_k, u1043_c, u1044_N, u1045_v, u1046_V, u1047_C, u1048_A, u1049_D⟩ := ((S.ext X1034))
    obtain ⟨u1050_E, u1051_B, u1052_t, u1053_k, u1054_c, u1055_N, u1056_v, u1057_V, u1058_C, u1059_A, u1060_D⟩ := ((⟨f1029, own_hb1, b1026, k1027, 0, _, _, f1031, f1030, f1032, Or.inl ⟨rfl, rfl, rfl, own_hc1⟩⟩ : OStr Z h1024 a1025 own_t1))
    refine g_virtualB W1033 dP4_22 (pc' := 25) (C := "java/lang/String") rfl (hw _ (List.mem_of_getElem? (i := 74) rfl)) (hw _ (List.mem_of_getElem? (i := 59) rfl)) (hw _ (List.mem_of_getElem? (i := 61) rfl)) (hw _ (List.mem_of_getElem? (i := 61) rfl)) (hw _ (List.mem_of_getElem? (i := 60) rfl)) (by decide) u1039_E (fun vm0 hZ0 => StrChars.Road.eqW (s := s.setVm vm0) (W := 0) hZ0 (fun d hd => hw d (own_weq d hd)) (hw _ (List.mem_of_getElem? (i := 6) rfl)) u1039_E u1046_V u1047_C u1048_A u1049_D u1040_B (by omega) u1050_E u1057_V u1058_C u1059_A u1060_D u1051_B (by decide) (SC.ext (own_ext_tr O X1034)) hzc (by decide) (by decide)) pd__Ljava_lang_Object__Z (argsL := [(.ref a1025)]) (st := []) rfl rfl rfl rfl (Nat.le_of_eq rfl) ?_
    intro v1035 T1036 q1037 W1038
    rcases q1037 with ⟨rfl, e1061⟩ | ⟨rfl, e1061⟩
    · skip
      refine g_ifN W1038 dP4_25 (pc' := 28) (feq (by decide : ¬ ((1 : Int32) = (0 : Int32)))).1 rfl ?_
      refine g_getS W1038 dP4_28 (pc' := 31) rfl (hw _ (List.mem_of_getElem? (i := 78) rfl)) (ST1.ext (own_ext_tr O X1034)) ?_
      intro T1063 W1062
      exact g_aret W1062 dP4_31 rfl rfl rfl rfl ⟨by unfold own_pick; rw [if_neg (fun z => e1020 z.symm : ¬ own_t0 = cs), if_pos e1061.symm], X1034⟩
    · skip
      refine g_ifY W1038 dP4_25 (pc' := 32) (teq (by decide : (0 : Int32) = (0 : Int32))).1 (by decide) (by decide) ?_
      refine g_aloadN W1038 dP4_32 (pc' := 33) rfl rfl rfl ?_
      refine g_ldcS W1038 dP4_33 (pc' := 35) (text := own_txt2) (vs := own_t2.map fun c => Value.int (StrChars.lo8 c)) (z := 15) (n := 60) rfl (hw _ (List.mem_of_getElem? (i := 77) rfl)) hSt (by decide) own_ht2 (by decide) rfl own_hn2 (by decide) (by decide) (by decide) ?_
      intro T1064 h1065 a1066 b1067 k1068 E1069 f1070 f1071 f1072 f1073 W1074
      have X1075 := own_ext_tr X1034 E1069
      obtain ⟨u1080_E, u1081_B, u1082_t, u1083_k, u1084_c, u1085_N, u1086_v, u1087_V, u1088_C, u1089_A, u1090_D⟩ := ((S.ext X1075))
      obtain ⟨u1091_E, u1092_B, u1093_t, u1094_k, u1095_c, u1096_N, u1097_v, u1098_V, u1099_C, u1100_A, u1101_D⟩ := ((⟨f1070, own_hb2, b1067, k1068, 0, _, _, f1072, f1071, f1073, Or.inl ⟨rfl, rfl, rfl, own_hc2⟩⟩ : OStr Z h1065 a1066 own_t2))
      refine g_virtualB W1074 dP4_35 (pc' := 38) (C := "java/lang/String") rfl (hw _ (List.mem_of_getElem? (i := 74) rfl)) (hw _ (List.mem_of_getElem? (i := 59) rfl)) (hw _ (List.mem_of_getElem? (i := 61) rfl)) (hw _ (List.mem_of_getElem? (i := 61) rfl)) (hw _ (List.mem_of_getElem? (i := 60) rfl)) (by decide) u1080_E (fun vm0 hZ0 => StrChars.Road.eqW (s := s.setVm vm0) (W := 0) hZ0 (fun d hd => hw d (own_weq d hd)) (hw _ (List.mem_of_getElem? (i := 6) rfl)) u1080_E u1087_V u1088_C u1089_A u1090_D u1081_B (by omega) u1091_E u1098_V u1099_C u1100_A u1101_D u1092_B (by decide) (SC.ext (own_ext_tr O X1075)) hzc (by decide) (by decide)) pd__Ljava_lang_Object__Z (argsL := [(.ref a1066)]) (st := []) rfl rfl rfl rfl (Nat.le_of_eq rfl) ?_
      intro v1076 T1077 q1078 W1079
      rcases q1078 with ⟨rfl, e1102⟩ | ⟨rfl, e1102⟩
      · skip
        refine g_ifN W1079 dP4_38 (pc' := 41) (feq (by decide : ¬ ((1 : Int32) = (0 : Int32)))).1 rfl ?_
        refine g_getS W1079 dP4_41 (pc' := 44) rfl (hw _ (List.mem_of_getElem? (i := 79) rfl)) (ST2.ext (own_ext_tr O X1075)) ?_
        intro T1104 W1103
        exact g_aret W1103 dP4_44 rfl rfl rfl rfl ⟨by unfold own_pick; rw [if_neg (fun z => e1020 z.symm : ¬ own_t0 = cs), if_neg (fun z => e1061 z.symm : ¬ own_t1 = cs), if_pos e1102.symm], X1075⟩
      · skip
        refine g_ifY W1079 dP4_38 (pc' := 45) (teq (by decide : (0 : Int32) = (0 : Int32))).1 (by decide) (by decide) ?_
        refine g_aconst_null W1079 dP4_45 (pc' := 46) rfl ?_
        exact g_aret W1079 dP4_46 rfl rfl rfl rfl ⟨by unfold own_pick; rw [if_neg (fun z => e1020 z.symm : ¬ own_t0 = cs), if_neg (fun z => e1061 z.symm : ¬ own_t1 = cs), if_neg (fun z => e1102 z.symm : ¬ own_t2 = cs)], X1075⟩
set_option maxRecDepth 65536 in
set_option maxHeartbeats 4000000 in
theorem con_exp0 (l : Launch) (Z : State) (a0 : Array Value) (hw : ∀ d ∈ tables_1, d.before a0 Z = true) (hEL : EW Z a0 consts_1) (t0 t1 t2 : Addr) (zc : Int32) (ST0 : Sta Z Z.heap "com/example/tidy_shelf/tidyshelf/catalogue/BookSort" "TITLE" "Lcom/example/tidy_shelf/tidyshelf/catalogue/BookSort;" (.ref t0)) (ST1 : Sta Z Z.heap "com/example/tidy_shelf/tidyshelf/catalogue/BookSort" "PUBLISHED_DATE" "Lcom/example/tidy_shelf/tidyshelf/catalogue/BookSort;" (.ref t1)) (ST2 : Sta Z Z.heap "com/example/tidy_shelf/tidyshelf/catalogue/BookSort" "AVAILABLE_COPIES" "Lcom/example/tidy_shelf/tidyshelf/catalogue/BookSort;" (.ref t2)) (SC : Sta Z Z.heap "java/lang/String" "COMPACT_STRINGS" "Z" (.int zc)) (hzc : ¬ zc = 0) (h0 : Heap) (O : Ext Z.heap h0)  :
    Ocon l Z consts_1 (⟨"com/example/tidy_shelf/tidyshelf/catalogue/BookSortNamedPinLaw", "expected", "(Ljava/lang/String;)Lcom/example/tidy_shelf/tidyshelf/catalogue/BookSort;"⟩ : MethodName) method_3_code 1 (some (.object "com/example/tidy_shelf/tidyshelf/catalogue/BookSort")) [] ({ frames := 2, cells := 6, slots := 144, locals := 28 } : Room) #[.null] h0 [] [] (fun v h _ => v = some (.null) ∧ Ext h0 h) := by
  refine own_con (a0 := a0) hEL (plainFor_of_name pn_com_example_tidy_shelf_tidyshelf_catalogue_BookSortNamedPinLaw) ?_
  intro p e s m below meth c T hs W0
  have ef : entryFrame m #[.null] 1 = mkF m 0 #[.val .null] [] := by first | rfl | (simp [entryFrame, mkF, argsToLocals, Value.category]; done)
  rw [ef]
  refine g_aloadN W0 dP4_0 (pc' := 1) rfl rfl rfl ?_
  refine g_nnN W0 dP4_1 (pc' := 4) rfl ?_
  refine g_aconst_null W0 dP4_4 (pc' := 5) rfl ?_
  exact g_aret W0 dP4_5 rfl rfl rfl rfl ⟨rfl, own_ext_rf _⟩
set_option maxRecDepth 65536 in
set_option maxHeartbeats 4000000 in
theorem con_law (l : Launch) (Z : State) (a0 : Array Value) (hw : ∀ d ∈ tables_1, d.before a0 Z = true) (hEL : EW Z a0 consts_1) (va t0 t1 t2 q0 q1 q2 : Addr) (kv : ClassId) (zc : Int32) (SV : Sta Z Z.heap "com/example/tidy_shelf/tidyshelf/catalogue/BookSort" "$VALUES" "[Lcom/example/tidy_shelf/tidyshelf/catalogue/BookSort;" (.ref va)) (AV : Arv Z Z.heap va kv (.object "com/example/tidy_shelf/tidyshelf/catalogue/BookSort") 3 [.ref t0, .ref t1, .ref t2] .null) (EV : Exa Z Z.heap va "[Lcom/example/tidy_shelf/tidyshelf/catalogue/BookSort;") (FQ0 : Fld Z Z.heap t0 "com/example/tidy_shelf/tidyshelf/catalogue/BookSort" "queryName" "Ljava/lang/String;" (.ref q0)) (SQ0 : OStr Z Z.heap q0 own_t0) (FQ1 : Fld Z Z.heap t1 "com/example/tidy_shelf/tidyshelf/catalogue/BookSort" "queryName" "Ljava/lang/String;" (.ref q1)) (SQ1 : OStr Z Z.heap q1 own_t1) (FQ2 : Fld Z Z.heap t2 "com/example/tidy_shelf/tidyshelf/catalogue/BookSort" "queryName" "Ljava/lang/String;" (.ref q2)) (SQ2 : OStr Z Z.heap q2 own_t2) (SC : Sta Z Z.heap "java/lang/String" "COMPACT_STRINGS" "Z" (.int zc)) (hzc : ¬ zc = 0) (ST0 : Sta Z Z.heap "com/example/tidy_shelf/tidyshelf/catalogue/BookSort" "TITLE" "Lcom/example/tidy_shelf/tidyshelf/catalogue/BookSort;" (.ref t0)) (ST1 : Sta Z Z.heap "com/example/tidy_shelf/tidyshelf/catalogue/BookSort" "PUBLISHED_DATE" "Lcom/example/tidy_shelf/tidyshelf/catalogue/BookSort;" (.ref t1)) (ST2 : Sta Z Z.heap "com/example/tidy_shelf/tidyshelf/catalogue/BookSort" "AVAILABLE_COPIES" "Lcom/example/tidy_shelf/tidyshelf/catalogue/BookSort;" (.ref t2)) (sel pp x y z w : Int32) (h0 : Heap) (O : Ext Z.heap h0) :
    Ocon l Z consts_1 Jvm.Pilot.@@N@@.x code maxLocals ret tables_1 room_1 #[(.int sel), (.int pp), (.int x), (.int y), (.int z), (.int w)] h0 [] [] (fun v h _ => v = some (.int 1)) := by
  refine own_con (a0 := a0) hEL (plainFor_of_name pn_com_example_tidy_shelf_tidyshelf_catalogue_BookSortNamedPinLaw) ?_
  intro p e s m below meth c T hs W0
  have W0 : Owk p l e room_1 s m #[(.int sel), (.int pp), (.int x), (.int y), (.int z), (.int w)] below meth c Z a0 consts_1 [] "com/example/tidy_shelf/tidyshelf/catalogue/BookSortNamedPinLaw" "law" code maxLocals ret T h0 [] 0 0 := W0
  show Ogo p l e room_1 s m #[(.int sel), (.int pp), (.int x), (.int y), (.int z), (.int w)] below meth c Z a0 consts_1 [] "com/example/tidy_shelf/tidyshelf/catalogue/BookSortNamedPinLaw" "law" code maxLocals ret T _ _
  have fin : ∀ (T : State) (h : Heap) (xx : Addr) (cs : List Int32) (k0 md : Int32) (s8 s10 : Slot), Ext Z.heap h → OStr Z h xx cs → cs.length ≤ 16 → Owk p l e room_1 s m #[(.int sel), (.int pp), (.int x), (.int y), (.int z), (.int w)] below meth c Z a0 consts_1 [] "com/example/tidy_shelf/tidyshelf/catalogue/BookSortNamedPinLaw" "law" code maxLocals ret T h [] 10 600 → Ogo p l e room_1 s m #[(.int sel), (.int pp), (.int x), (.int y), (.int z), (.int w)] below meth c Z a0 consts_1 [] "com/example/tidy_shelf/tidyshelf/catalogue/BookSortNamedPinLaw" "law" code maxLocals ret T (mkF m 119 #[.val (.int sel), .val (.int pp), .val (.int x), .val (.int y), .val (.int z), .val (.int w), .val (.int k0), .val (.int md), s8, .val (.ref xx), s10] []) (fun v h _ => v = some (.int 1)) := by
    intro T h xx cs k0 md s8 s10 O1 S hl W0
    refine g_aload W0 at_119 (pc' := 121) rfl rfl rfl ?_
    refine g_static W0 at_121 (pc' := 124) rfl (hw _ (List.mem_of_getElem? (i := 34) rfl)) (hw _ (List.mem_of_getElem? (i := 35) rfl)) (hw _ (List.mem_of_getElem? (i := 36) rfl)) (hw _ (List.mem_of_getElem? (i := 37) rfl)) (by decide) (con_named l Z a0 hw hEL va t0 t1 t2 q0 q1 q2 kv zc SV AV EV FQ0 SQ0 FQ1 SQ1 FQ2 SQ2 SC hzc h O1 xx cs S hl) pd__Ljava_lang_String__Lcom_example_tidy_shelf_tidyshelf_catalogue_BookSort_ (argsL := [(.ref xx)]) (st := []) rfl rfl rfl rfl (by decide) (w := 0) (Nat.le_of_eq rfl) (by decide) (by decide) (by decide) (by simp) (fun q hq => nomatch hq) ?_
    intro v1105 T1106 h1107 S1110 q1108 W1111
    have W1109 := W1111.sf (SF' := []) (fun _ hx => List.mem_append_right _ hx)
    obtain ⟨rfl, X1112⟩ := q1108
    have O2 := own_ext_tr O1 X1112
    refine g_aload W1109 at_124 (pc' := 126) rfl rfl rfl ?_
    refine g_static W1109 at_126 (pc' := 129) rfl (hw _ (List.mem_of_getElem? (i := 68) rfl)) (hw _ (List.mem_of_getElem? (i := 69) rfl)) (hw _ (List.mem_of_getElem? (i := 2) rfl)) (hw _ (List.mem_of_getElem? (i := 70) rfl)) (by decide) (con_exp l Z a0 hw hEL t0 t1 t2 zc ST0 ST1 ST2 SC hzc h1107 O2 xx cs (S.ext X1112) hl) pd__Ljava_lang_String__Lcom_example_tidy_shelf_tidyshelf_catalogue_BookSort_ (argsL := [(.ref xx)]) (st := [(own_pick t0 t1 t2 cs)]) rfl rfl rfl rfl (by decide) (w := 1) (by simp [own_pick_cat]) (by decide) (by decide) (by decide) (by simp) (fun q hq => nomatch hq) ?_
    intro v1113 T1114 h1115 S1118 q1116 W1119
    have W1117 := W1119.sf (SF' := []) (fun _ hx => List.mem_append_right _ hx)
    obtain ⟨rfl, -⟩ := q1116
    refine g_acN W1117 at_129 (pc' := 132) (own_pick_ref t0 t1 t2 cs) (own_pick_ref t0 t1 t2 cs) (by simp [XT.acmp]) rfl ?_
    refine g_iconst W1117 at_132 (pc' := 133) rfl (v := 1) rfl ?_
    refine g_goto W1117 at_133 (pc' := 137) (by decide) (by decide) ?_
    exact g_iret W1117 at_137 rfl (Or.inr (Or.inl rfl)) rfl rfl
  have fin0 : ∀ (T : State) (h : Heap) (k0 md : Int32) (s8 s10 : Slot), Ext Z.heap h → Owk p l e room_1 s m #[(.int sel), (.int pp), (.int x), (.int y), (.int z), (.int w)] below meth c Z a0 consts_1 [] "com/example/tidy_shelf/tidyshelf/catalogue/BookSortNamedPinLaw" "law" code maxLocals ret T h [] 10 600 → Ogo p l e room_1 s m #[(.int sel), (.int pp), (.int x), (.int y), (.int z), (.int w)] below meth c Z a0 consts_1 [] "com/example/tidy_shelf/tidyshelf/catalogue/BookSortNamedPinLaw" "law" code maxLocals ret T (mkF m 119 #[.val (.int sel), .val (.int pp), .val (.int x), .val (.int y), .val (.int z), .val (.int w), .val (.int k0), .val (.int md), s8, .val .null, s10] []) (fun v h _ => v = some (.int 1)) := by
    intro T h k0 md s8 s10 O1 W0
    refine g_aload W0 at_119 (pc' := 121) rfl rfl rfl ?_
    refine g_static W0 at_121 (pc' := 124) rfl (hw _ (List.mem_of_getElem? (i := 34) rfl)) (hw _ (List.mem_of_getElem? (i := 35) rfl)) (hw _ (List.mem_of_getElem? (i := 36) rfl)) (hw _ (List.mem_of_getElem? (i := 37) rfl)) (by decide) (con_named0 l Z a0 hw hEL va t0 t1 t2 q0 q1 q2 kv zc SV AV EV FQ0 SQ0 FQ1 SQ1 FQ2 SQ2 SC hzc h O1) pd__Ljava_lang_String__Lcom_example_tidy_shelf_tidyshelf_catalogue_BookSort_ (argsL := [.null]) (st := []) rfl rfl rfl rfl (by decide) (w := 0) (Nat.le_of_eq rfl) (by decide) (by decide) (by decide) (by simp) (fun q hq => nomatch hq) ?_
    intro v1120 T1121 h1122 S1125 q1123 W1126
    have W1124 := W1126.sf (SF' := []) (fun _ hx => List.mem_append_right _ hx)
    obtain ⟨rfl, X1127⟩ := q1123
    have O2 := own_ext_tr O1 X1127
    refine g_aload W1124 at_124 (pc' := 126) rfl rfl rfl ?_
    refine g_static W1124 at_126 (pc' := 129) rfl (hw _ (List.mem_of_getElem? (i := 68) rfl)) (hw _ (List.mem_of_getElem? (i := 69) rfl)) (hw _ (List.mem_of_getElem? (i := 2) rfl)) (hw _ (List.mem_of_getElem? (i := 70) rfl)) (by decide) (con_exp0 l Z a0 hw hEL t0 t1 t2 zc ST0 ST1 ST2 SC hzc h1122 O2) pd__Ljava_lang_String__Lcom_example_tidy_shelf_tidyshelf_catalogue_BookSort_ (argsL := [.null]) (st := [.null]) rfl rfl rfl rfl (by decide) (w := 1) (Nat.le_of_eq rfl) (by decide) (by decide) (by decide) (by simp) (fun q hq => nomatch hq) ?_
    intro v1128 T1129 h1130 S1133 q1131 W1134
    have W1132 := W1134.sf (SF' := []) (fun _ hx => List.mem_append_right _ hx)
    obtain ⟨rfl, -⟩ := q1131
    refine g_acN W1132 at_129 (pc' := 132) rfl rfl (by simp [XT.acmp]) rfl ?_
    refine g_iconst W1132 at_132 (pc' := 133) rfl (v := 1) rfl ?_
    refine g_goto W1132 at_133 (pc' := 137) (by decide) (by decide) ?_
    exact g_iret W1132 at_137 rfl (Or.inr (Or.inl rfl)) rfl rfl
  have mid : ∀ (T : State) (k0 md v8 : Int32), Owk p l e room_1 s m #[(.int sel), (.int pp), (.int x), (.int y), (.int z), (.int w)] below meth c Z a0 consts_1 [] "com/example/tidy_shelf/tidyshelf/catalogue/BookSortNamedPinLaw" "law" code maxLocals ret T h0 [] 0 0 → Ogo p l e room_1 s m #[(.int sel), (.int pp), (.int x), (.int y), (.int z), (.int w)] below meth c Z a0 consts_1 [] "com/example/tidy_shelf/tidyshelf/catalogue/BookSortNamedPinLaw" "law" code maxLocals ret T (mkF m 27 #[.val (.int sel), .val (.int pp), .val (.int x), .val (.int y), .val (.int z), .val (.int w), .val (.int k0), .val (.int md), .val (.int v8), .unset, .unset] []) (fun v h _ => v = some (.int 1)) := by
    intro T k0 md v8 W0
    refine g_iload W0 at_27 (pc' := 29) rfl rfl ?_
    refine g_iconst W0 at_29 (pc' := 30) rfl (v := 3) rfl ?_
    by_cases c1135 : k0 = (3 : Int32)
    · skip
      refine g_icN W0 at_30 (pc' := 33) (teq c1135).2 rfl ?_
      refine g_iload W0 at_33 (pc' := 35) rfl rfl ?_
      refine g_iconst W0 at_35 (pc' := 36) rfl (v := 3) rfl ?_
      by_cases c1136 : md = (3 : Int32)
      · skip
        refine g_icN W0 at_36 (pc' := 39) (teq c1136).2 rfl ?_
        refine g_aconst_null W0 at_39 (pc' := 40) rfl ?_
        refine g_astore W0 at_40 (pc' := 42) rfl (ls' := #[.val (.int sel), .val (.int pp), .val (.int x), .val (.int y), .val (.int z), .val (.int w), .val (.int k0), .val (.int md), .val (.int v8), .val .null, .unset]) rfl rfl ?_
        refine g_goto W0 at_42 (pc' := 119) (by decide) (by decide) ?_
        exact fin0 T h0 k0 md _ _ O ((W0.up (k' := 10) (j' := 600) (by decide) (by decide) (by decide) (by decide)).sf (SF' := []) (fun q hq => nomatch hq))
      · skip
        refine g_icY W0 at_36 (pc' := 45) (feq c1136).2 (by decide) (by decide) ?_
        refine g_new W0 at_45 (pc' := 48) rfl (hw _ (List.mem_of_getElem? (i := 5) rfl)) (hw _ (List.mem_of_getElem? (i := 6) rfl)) (hw _ (List.mem_of_getElem? (i := 7) rfl)) (by decide) (by decide) ?_
        intro T1137 h1138 E1139 A1140 D1141 U1142 W1143
        obtain ⟨a1144, g1145⟩ : ∃ z, z = h0.size := ⟨_, rfl⟩
        rw [← g1145] at A1140 D1141 U1142 W1143 ⊢
        have O1146 := own_ext_tr O E1139
        have na1144 : s.heap.size ≤ a1144 := by rw [g1145]; exact W0.grown
        refine g_dup W1143 at_48 (pc' := 49) rfl rfl ?_
        refine g_iloadN W1143 at_49 (pc' := 50) rfl rfl ?_
        refine g_iconst W1143 at_50 (pc' := 51) rfl (v := 5) rfl ?_
        refine g_iushr W1143 at_51 (pc' := 52) rfl ?_
        refine g_iconst W1143 at_52 (pc' := 53) rfl (v := 3) rfl ?_
        refine g_iand W1143 at_53 (pc' := 54) rfl ?_
        refine g_iloadN W1143 at_54 (pc' := 55) rfl rfl ?_
        refine g_iloadN W1143 at_55 (pc' := 56) rfl rfl ?_
        refine g_iload W1143 at_56 (pc' := 58) rfl rfl ?_
        refine g_static W1143 at_58 (pc' := 61) rfl (hw _ (List.mem_of_getElem? (i := 81) rfl)) (hw _ (List.mem_of_getElem? (i := 82) rfl)) (hw _ (List.mem_of_getElem? (i := 2) rfl)) (hw _ (List.mem_of_getElem? (i := 83) rfl)) (by decide) (con_drawn l Z a0 hw hEL (XT.ushr sel (5 : Int32) &&& (3 : Int32)) x y z h1138) pd__IIII__C (argsL := [(.int (XT.ushr sel (5 : Int32) &&& (3 : Int32))), (.int x), (.int y), (.int z)]) (st := [(.ref a1144), (.ref a1144)]) rfl rfl rfl rfl (by decide) (w := 2) (Nat.le_of_eq rfl) (by decide) (by decide) (by decide) (by simp) (fun q hq => nomatch hq) ?_
        intro v1147 T1148 h1149 S1152 q1150 W1153
        have W1151 := W1153.sf (SF' := [a1144]) (fun _ hx => List.mem_append_right _ hx)
        obtain ⟨a1154, k1155, cs1156, rfl, X1157, na1158, hl1160, hb1161, A1162⟩ := q1150
        have O1163 := own_ext_tr O1146 X1157
        have zx1164 : Z.heap.size ≤ a1144 := by rw [g1145]; exact (O).1
        refine g_special W1151 at_61 (pc' := 64) rfl rfl (hw _ (List.mem_of_getElem? (i := 8) rfl)) (hw _ (List.mem_of_getElem? (i := 9) rfl)) (hw _ (List.mem_of_getElem? (i := 7) rfl)) (hw _ (List.mem_of_getElem? (i := 10) rfl)) (by decide) (con_new1 l Z a0 hw hEL a1144 a1154 k1155 cs1156 _ _ _ zc _ h1149 O1163 (fun c hc => (hb1161 c hc).2) zx1164 rfl hl1160 (A1140.ext X1157) ((D1141 (Or.inr (hw _ (List.mem_of_getElem? (i := 33) rfl))) (ty := .array .byte) (by decide)).ext X1157) ((D1141 (Or.inr (hw _ (List.mem_of_getElem? (i := 31) rfl))) (ty := .byte) (by decide)).ext X1157) A1162 (own_b16 hb1161) SC hzc) pd___C_V (argsL := [(.ref a1154)]) (st := [(.ref a1144)]) rfl rfl rfl rfl (by decide) (w := 1) (Nat.le_of_eq rfl) (by decide) (by decide) (by decide) (by simp) (fun q hq => Or.inr (by rcases List.mem_cons.mp hq with rfl | hq; exact na1144; cases List.mem_singleton.mp hq; exact na1144)) ?_
        intro v1165 T1166 h1167 S1170 q1168 W1171
        have W1169 := W1171.sf (SF' := [a1144]) (fun _ hx => List.mem_append_right _ hx)
        obtain ⟨rfl, K1172, S1173⟩ := q1168
        have O1174 := own_ext_keep O1163 K1172 (by intro y hy; rw [List.mem_singleton.mp hy]; exact zx1164)
        refine g_astore W1169 at_64 (pc' := 66) rfl (ls' := #[.val (.int sel), .val (.int pp), .val (.int x), .val (.int y), .val (.int z), .val (.int w), .val (.int k0), .val (.int md), .val (.int v8), .val (.ref a1144), .unset]) rfl rfl ?_
        refine g_goto W1169 at_66 (pc' := 119) (by decide) (by decide) ?_
        exact fin T1166 h1167 a1144 _ k0 md _ _ O1174 S1173 hl1160 ((W1169.up (k' := 10) (j' := 600) (by decide) (by decide) (by decide) (by decide)).sf (SF' := []) (fun q hq => nomatch hq))
    · skip
      refine g_icY W0 at_30 (pc' := 69) (feq c1135).2 (by decide) (by decide) ?_
      refine g_iload W0 at_69 (pc' := 71) rfl rfl ?_
      refine g_iload W0 at_71 (pc' := 73) rfl rfl ?_
      refine g_iload W0 at_73 (pc' := 75) rfl rfl ?_
      refine g_static W0 at_75 (pc' := 78) rfl (hw _ (List.mem_of_getElem? (i := 0) rfl)) (hw _ (List.mem_of_getElem? (i := 1) rfl)) (hw _ (List.mem_of_getElem? (i := 2) rfl)) (hw _ (List.mem_of_getElem? (i := 3) rfl)) (by decide) (con_base l Z a0 hw hEL k0 md w h0) pd__III__C (argsL := [(.int k0), (.int md), (.int w)]) (st := []) rfl rfl rfl rfl (by decide) (w := 0) (Nat.le_of_eq rfl) (by decide) (by decide) (by decide) (by simp) (fun q hq => nomatch hq) ?_
      intro v1175 T1176 h1177 S1180 q1178 W1181
      have W1179 := W1181.sf (SF' := []) (fun _ hx => List.mem_append_right _ hx)
      obtain ⟨a1182, k1183, cs1184, rfl, X1185, na1186, hp1187, hl1188, hb1189, A1190⟩ := q1178
      have O1191 := own_ext_tr O X1185
      refine g_astore W1179 at_78 (pc' := 80) rfl (ls' := #[.val (.int sel), .val (.int pp), .val (.int x), .val (.int y), .val (.int z), .val (.int w), .val (.int k0), .val (.int md), .val (.int v8), .unset, .val (.ref a1182)]) rfl rfl ?_
      refine g_iload W1179 at_80 (pc' := 82) rfl rfl ?_
      by_cases c1192 : v8 = (0 : Int32)
      · skip
        refine g_ifY W1179 at_82 (pc' := 108) (teq c1192).1 (by decide) (by decide) ?_
        refine g_new W1179 at_108 (pc' := 111) rfl (hw _ (List.mem_of_getElem? (i := 5) rfl)) (hw _ (List.mem_of_getElem? (i := 6) rfl)) (hw _ (List.mem_of_getElem? (i := 7) rfl)) (by decide) (by decide) ?_
        intro T1193 h1194 E1195 A1196 D1197 U1198 W1199
        obtain ⟨a1200, g1201⟩ : ∃ z, z = h1177.size := ⟨_, rfl⟩
        rw [← g1201] at A1196 D1197 U1198 W1199 ⊢
        have O1202 := own_ext_tr O1191 E1195
        have na1200 : s.heap.size ≤ a1200 := by rw [g1201]; exact W1179.grown
        refine g_dup W1199 at_111 (pc' := 112) rfl rfl ?_
        refine g_aload W1199 at_112 (pc' := 114) rfl rfl rfl ?_
        have zx1203 : Z.heap.size ≤ a1200 := by rw [g1201]; exact (O1191).1
        refine g_special W1199 at_114 (pc' := 117) rfl rfl (hw _ (List.mem_of_getElem? (i := 8) rfl)) (hw _ (List.mem_of_getElem? (i := 9) rfl)) (hw _ (List.mem_of_getElem? (i := 7) rfl)) (hw _ (List.mem_of_getElem? (i := 10) rfl)) (by decide) (con_new1 l Z a0 hw hEL a1200 a1182 k1183 cs1184 _ _ _ zc _ h1194 O1202 (fun c hc => (hb1189 c hc).2) zx1203 rfl hl1188 A1196 (D1197 (Or.inr (hw _ (List.mem_of_getElem? (i := 33) rfl))) (ty := .array .byte) (by decide)) (D1197 (Or.inr (hw _ (List.mem_of_getElem? (i := 31) rfl))) (ty := .byte) (by decide)) (A1190.ext E1195) (own_b16 hb1189) SC hzc) pd___C_V (argsL := [(.ref a1182)]) (st := [(.ref a1200)]) rfl rfl rfl rfl (by decide) (w := 1) (Nat.le_of_eq rfl) (by decide) (by decide) (by decide) (by simp) (fun q hq => Or.inr (by rcases List.mem_cons.mp hq with rfl | hq; exact na1200; cases List.mem_singleton.mp hq; exact na1200)) ?_
        intro v1204 T1205 h1206 S1209 q1207 W1210
        have W1208 := W1210.sf (SF' := [a1200]) (fun _ hx => List.mem_append_right _ hx)
        obtain ⟨rfl, K1211, S1212⟩ := q1207
        have O1213 := own_ext_keep O1202 K1211 (by intro y hy; rw [List.mem_singleton.mp hy]; exact zx1203)
        refine g_astore W1208 at_117 (pc' := 119) rfl (ls' := #[.val (.int sel), .val (.int pp), .val (.int x), .val (.int y), .val (.int z), .val (.int w), .val (.int k0), .val (.int md), .val (.int v8), .val (.ref a1200), .val (.ref a1182)]) rfl rfl ?_
        exact fin T1205 h1206 a1200 _ k0 md _ _ O1213 S1212 hl1188 ((W1208.up (k' := 10) (j' := 600) (by decide) (by decide) (by decide) (by decide)).sf (SF' := []) (fun q hq => nomatch hq))
      · skip
        refine g_ifN W1179 at_82 (pc' := 85) (feq c1192).1 rfl ?_
        refine g_iload W1179 at_85 (pc' := 87) rfl rfl ?_
        refine g_iconst W1179 at_87 (pc' := 88) rfl (v := 3) rfl ?_
        by_cases c1214 : md = (3 : Int32)
        · skip
          refine g_icY W1179 at_88 (pc' := 108) (teq c1214).1 (by decide) (by decide) ?_
          refine g_new W1179 at_108 (pc' := 111) rfl (hw _ (List.mem_of_getElem? (i := 5) rfl)) (hw _ (List.mem_of_getElem? (i := 6) rfl)) (hw _ (List.mem_of_getElem? (i := 7) rfl)) (by decide) (by decide) ?_
          intro T1215 h1216 E1217 A1218 D1219 U1220 W1221
          obtain ⟨a1222, g1223⟩ : ∃ z, z = h1177.size := ⟨_, rfl⟩
          rw [← g1223] at A1218 D1219 U1220 W1221 ⊢
          have O1224 := own_ext_tr O1191 E1217
          have na1222 : s.heap.size ≤ a1222 := by rw [g1223]; exact W1179.grown
          refine g_dup W1221 at_111 (pc' := 112) rfl rfl ?_
          refine g_aload W1221 at_112 (pc' := 114) rfl rfl rfl ?_
          have zx1225 : Z.heap.size ≤ a1222 := by rw [g1223]; exact (O1191).1
          refine g_special W1221 at_114 (pc' := 117) rfl rfl (hw _ (List.mem_of_getElem? (i := 8) rfl)) (hw _ (List.mem_of_getElem? (i := 9) rfl)) (hw _ (List.mem_of_getElem? (i := 7) rfl)) (hw _ (List.mem_of_getElem? (i := 10) rfl)) (by decide) (con_new1 l Z a0 hw hEL a1222 a1182 k1183 cs1184 _ _ _ zc _ h1216 O1224 (fun c hc => (hb1189 c hc).2) zx1225 rfl hl1188 A1218 (D1219 (Or.inr (hw _ (List.mem_of_getElem? (i := 33) rfl))) (ty := .array .byte) (by decide)) (D1219 (Or.inr (hw _ (List.mem_of_getElem? (i := 31) rfl))) (ty := .byte) (by decide)) (A1190.ext E1217) (own_b16 hb1189) SC hzc) pd___C_V (argsL := [(.ref a1182)]) (st := [(.ref a1222)]) rfl rfl rfl rfl (by decide) (w := 1) (Nat.le_of_eq rfl) (by decide) (by decide) (by decide) (by simp) (fun q hq => Or.inr (by rcases List.mem_cons.mp hq with rfl | hq; exact na1222; cases List.mem_singleton.mp hq; exact na1222)) ?_
          intro v1226 T1227 h1228 S1231 q1229 W1232
          have W1230 := W1232.sf (SF' := [a1222]) (fun _ hx => List.mem_append_right _ hx)
          obtain ⟨rfl, K1233, S1234⟩ := q1229
          have O1235 := own_ext_keep O1224 K1233 (by intro y hy; rw [List.mem_singleton.mp hy]; exact zx1225)
          refine g_astore W1230 at_117 (pc' := 119) rfl (ls' := #[.val (.int sel), .val (.int pp), .val (.int x), .val (.int y), .val (.int z), .val (.int w), .val (.int k0), .val (.int md), .val (.int v8), .val (.ref a1222), .val (.ref a1182)]) rfl rfl ?_
          exact fin T1227 h1228 a1222 _ k0 md _ _ O1235 S1234 hl1188 ((W1230.up (k' := 10) (j' := 600) (by decide) (by decide) (by decide) (by decide)).sf (SF' := []) (fun q hq => nomatch hq))
        · skip
          refine g_icN W1179 at_88 (pc' := 91) (feq c1214).1 rfl ?_
          refine g_aload W1179 at_91 (pc' := 93) rfl rfl rfl ?_
          refine g_iloadN W1179 at_93 (pc' := 94) rfl rfl ?_
          refine g_ldcI W1179 at_94 (pc' := 96) rfl (hw _ (List.mem_of_getElem? (i := 80) rfl)) ?_
          refine g_iand W1179 at_96 (pc' := 97) rfl ?_
          refine g_aload W1179 at_97 (pc' := 99) rfl rfl rfl ?_
          refine g_alen W1179 at_99 (pc' := 100) rfl A1190 ?_
          refine g_irem W1179 at_100 (pc' := 101) rfl (Jvm.Free.XT.nz32 (by omega) hp1187) ?_
          obtain ⟨i1236, hi1237, ei1238⟩ := own_rem pp (n := cs1184.length) (by omega) hp1187
          rw [ei1238]
          refine g_iloadN W1179 at_101 (pc' := 102) rfl rfl ?_
          refine g_sipush W1179 at_102 (pc' := 105) rfl (v := 255) rfl ?_
          refine g_iand W1179 at_105 (pc' := 106) rfl ?_
          refine g_i2c W1179 at_106 (pc' := 107) rfl ?_
          rw [i2c_mask]
          have WW1179a := W1179.add A1190 (by decide)
          refine g_castore WW1179a at_107 (pc' := 108) rfl A1190 (i := i1236) rfl (by rw [own_clamp (by omega)]; exact hi1237) (by rw [List.length_map]; exact hi1237) (y := (x &&& 255)) (i2c_mask _) (vs' := (cs1184.set i1236 (x &&& 255)).map Value.int) (by rw [List.map_set]) (by simp) (Or.inr (Nat.le_trans W0.grown na1186)) ?_
          intro T1239 h1240 w1241 A1242 W1243
          have O1244 := own_ext_wr O1191 w1241 (Nat.le_trans (O).1 na1186)
          have hl1245 : (cs1184.set i1236 (x &&& 255)).length ≤ 16 := by rw [List.length_set]; exact hl1188
          have hb1246 : ∀ c ∈ cs1184.set i1236 (x &&& 255), ¬ c < 0 ∧ ¬ (255 : Int32) < c := own_bset _ _ (own_b255 _) hb1189
          have A1248 : Arv Z h1240 a1182 k1183 .char (Int32.ofNat (cs1184.set i1236 (x &&& 255)).length) ((cs1184.set i1236 (x &&& 255)).map Value.int) (.int 0) := by rw [List.length_set]; exact A1242
          refine g_new W1243 at_108 (pc' := 111) rfl (hw _ (List.mem_of_getElem? (i := 5) rfl)) (hw _ (List.mem_of_getElem? (i := 6) rfl)) (hw _ (List.mem_of_getElem? (i := 7) rfl)) (by decide) (by decide) ?_
          intro T1249 h1250 E1251 A1252 D1253 U1254 W1255
          obtain ⟨a1256, g1257⟩ : ∃ z, z = h1240.size := ⟨_, rfl⟩
          rw [← g1257] at A1252 D1253 U1254 W1255 ⊢
          have O1258 := own_ext_tr O1244 E1251
          have na1256 : s.heap.size ≤ a1256 := by rw [g1257]; exact W1243.grown
          refine g_dup W1255 at_111 (pc' := 112) rfl rfl ?_
          refine g_aload W1255 at_112 (pc' := 114) rfl rfl rfl ?_
          have zx1259 : Z.heap.size ≤ a1256 := by rw [g1257]; exact (O1244).1
          refine g_special W1255 at_114 (pc' := 117) rfl rfl (hw _ (List.mem_of_getElem? (i := 8) rfl)) (hw _ (List.mem_of_getElem? (i := 9) rfl)) (hw _ (List.mem_of_getElem? (i := 7) rfl)) (hw _ (List.mem_of_getElem? (i := 10) rfl)) (by decide) (con_new1 l Z a0 hw hEL a1256 a1182 k1183 (cs1184.set i1236 (x &&& 255)) _ _ _ zc _ h1250 O1258 (fun c hc => (hb1246 c hc).2) zx1259 rfl hl1245 A1252 (D1253 (Or.inr (hw _ (List.mem_of_getElem? (i := 33) rfl))) (ty := .array .byte) (by decide)) (D1253 (Or.inr (hw _ (List.mem_of_getElem? (i := 31) rfl))) (ty := .byte) (by decide)) (A1248.ext E1251) (own_b16 hb1246) SC hzc) pd___C_V (argsL := [(.ref a1182)]) (st := [(.ref a1256)]) rfl rfl rfl rfl (by decide) (w := 1) (Nat.le_of_eq rfl) (by decide) (by decide) (by decide) (by simp) (fun q hq => Or.inr (by rcases List.mem_cons.mp hq with rfl | hq; exact na1256; cases List.mem_singleton.mp hq; exact na1256)) ?_
          intro v1260 T1261 h1262 S1265 q1263 W1266
          have W1264 := W1266.sf (SF' := [a1256, a1182]) (fun _ hx => List.mem_append_right _ hx)
          obtain ⟨rfl, K1267, S1268⟩ := q1263
          have O1269 := own_ext_keep O1258 K1267 (by intro y hy; rw [List.mem_singleton.mp hy]; exact zx1259)
          refine g_astore W1264 at_117 (pc' := 119) rfl (ls' := #[.val (.int sel), .val (.int pp), .val (.int x), .val (.int y), .val (.int z), .val (.int w), .val (.int k0), .val (.int md), .val (.int v8), .val (.ref a1256), .val (.ref a1182)]) rfl rfl ?_
          exact fin T1261 h1262 a1256 _ k0 md _ _ O1269 S1268 hl1245 ((W1264.up (k' := 10) (j' := 600) (by decide) (by decide) (by decide) (by decide)).sf (SF' := []) (fun q hq => nomatch hq))
  have ef : entryFrame m #[(.int sel), (.int pp), (.int x), (.int y), (.int z), (.int w)] maxLocals = mkF m 0 #[.val (.int sel), .val (.int pp), .val (.int x), .val (.int y), .val (.int z), .val (.int w), .unset, .unset, .unset, .unset, .unset] [] := by first | rfl | (simp [entryFrame, mkF, argsToLocals, Value.category, maxLocals]; done)
  rw [ef]
  refine g_iloadN W0 at_0 (pc' := 1) rfl rfl ?_
  refine g_iconst W0 at_1 (pc' := 2) rfl (v := 3) rfl ?_
  refine g_iand W0 at_2 (pc' := 3) rfl ?_
  refine g_istore W0 at_3 (pc' := 5) rfl (ls' := #[.val (.int sel), .val (.int pp), .val (.int x), .val (.int y), .val (.int z), .val (.int w), .val (.int (sel &&& (3 : Int32))), .unset, .unset, .unset, .unset]) rfl ?_
  refine g_iloadN W0 at_5 (pc' := 6) rfl rfl ?_
  refine g_iconst W0 at_6 (pc' := 7) rfl (v := 2) rfl ?_
  refine g_iushr W0 at_7 (pc' := 8) rfl ?_
  refine g_iconst W0 at_8 (pc' := 9) rfl (v := 3) rfl ?_
  refine g_iand W0 at_9 (pc' := 10) rfl ?_
  refine g_istore W0 at_10 (pc' := 12) rfl (ls' := #[.val (.int sel), .val (.int pp), .val (.int x), .val (.int y), .val (.int z), .val (.int w), .val (.int (sel &&& (3 : Int32))), .val (.int ((XT.ushr sel (2 : Int32)) &&& (3 : Int32))), .unset, .unset, .unset]) rfl ?_
  refine g_iloadN W0 at_12 (pc' := 13) rfl rfl ?_
  refine g_iconst W0 at_13 (pc' := 14) rfl (v := 4) rfl ?_
  refine g_iushr W0 at_14 (pc' := 15) rfl ?_
  refine g_iconst W0 at_15 (pc' := 16) rfl (v := 1) rfl ?_
  refine g_iand W0 at_16 (pc' := 17) rfl ?_
  by_cases c1270 : ((XT.ushr sel (4 : Int32)) &&& (1 : Int32)) = (0 : Int32)
  · skip
    refine g_ifY W0 at_17 (pc' := 24) (teq c1270).1 (by decide) (by decide) ?_
    refine g_iconst W0 at_24 (pc' := 25) rfl (v := 0) rfl ?_
    refine g_istore W0 at_25 (pc' := 27) rfl (ls' := #[.val (.int sel), .val (.int pp), .val (.int x), .val (.int y), .val (.int z), .val (.int w), .val (.int (sel &&& (3 : Int32))), .val (.int ((XT.ushr sel (2 : Int32)) &&& (3 : Int32))), .val (.int (0 : Int32)), .unset, .unset]) rfl ?_
    exact mid _ _ _ _ W0
  · skip
    refine g_ifN W0 at_17 (pc' := 20) (feq c1270).1 rfl ?_
    refine g_iconst W0 at_20 (pc' := 21) rfl (v := 1) rfl ?_
    refine g_goto W0 at_21 (pc' := 25) (by decide) (by decide) ?_
    refine g_istore W0 at_25 (pc' := 27) rfl (ls' := #[.val (.int sel), .val (.int pp), .val (.int x), .val (.int y), .val (.int z), .val (.int w), .val (.int (sel &&& (3 : Int32))), .val (.int ((XT.ushr sel (2 : Int32)) &&& (3 : Int32))), .val (.int (1 : Int32)), .unset, .unset]) rfl ?_
    exact mid _ _ _ _ W0
set_option maxRecDepth 65536 in
set_option maxHeartbeats 40000000 in
theorem comes_1 {Post : Tables → Env → Array Value → State → Outcome → State → Prop} (hpost : ∀ tb e args s v u, (limb_1_1.after args s (.returned v) u = true ∧ limb_1_2.after args s (.returned v) u = true ∧ True) → ReturnedEndW s (.returned v) u (Jvm.fieldLocs frame_1_writes args s ++ Jvm.arrayLocs frame_1_arrays args s ++ Jvm.staticLocs frame_1_statics s) 24 4288 → Post tb e args s (.returned v) u) :
    ArmFor flags0 classFile x code maxLocals ret World_1 tables_1 room_1 Calls_1 rest_1 Pre_1 Post := by
  intro l hfl _ _ p e ha hc hk s m args below hf hA hF happ hP
  obtain ⟨hcalls, hrest, hpre⟩ := hP
  obtain ⟨-, -, -, hnamed, -, -, -, hat⟩ := (Spec.applies_iff hf).mp happ
  obtain ⟨hg, hn⟩ := and_e (Cond.before_iff.mp (show (Jvm.Cond.and given_1 narrow_1).before args s = true from hpre))
  obtain ⟨g0, r0⟩ := and_e hg
  obtain ⟨g1, r1⟩ := and_e r0
  obtain ⟨g2, r2⟩ := and_e r1
  obtain ⟨g3, r3⟩ := and_e r2
  obtain ⟨g4, r4⟩ := and_e r3
  obtain ⟨g5, r5⟩ := and_e r4
  obtain ⟨w0, w1, w2, w3, w4, w5, rfl⟩ : ∃ w0 w1 w2 w3 w4 w5 : Value, args = #[w0, w1, w2, w3, w4, w5] := by
    have hs : args.size = 6 := by simpa [Cond.value, given_1] using g0
    obtain ⟨L⟩ := args
    match L, hs with
    | [w0, w1, w2, w3, w4, w5], _ => exact ⟨w0, w1, w2, w3, w4, w5, rfl⟩
  have hw := fun d (hd : d ∈ tables_1) => atoms_spec (ws := Jvm.Cond.code x code maxLocals ret :: tables_1) hat d (List.mem_cons_of_mem _ hd)
  have hfit : Fit s := fun {y c} hc i hi => by
    obtain ⟨ha, rfl⟩ := Array.getElem?_eq_some_iff.mp hc
    have q := List.all_eq_true.mp ((Array.all_eq_true_iff_forall_mem.mp hF) _ (Array.getElem_mem ha)) i (List.mem_range.mpr hi)
    simpa [Array.getElem?_eq_getElem hi] using q
  obtain ⟨hsets, hown0⟩ := atoms_of _ (rest_1_c_eq ▸ (show rest_1_c.before _ s = true from hrest))
  obtain ⟨i0, ei0⟩ := is_v g1
  obtain rfl : w0 = (.int i0) := Option.some.inj ei0
  obtain ⟨i1, ei1⟩ := is_v g2
  obtain rfl : w1 = (.int i1) := Option.some.inj ei1
  obtain ⟨i2, ei2⟩ := is_v g3
  obtain rfl : w2 = (.int i2) := Option.some.inj ei2
  obtain ⟨i3, ei3⟩ := is_v g4
  obtain rfl : w3 = (.int i3) := Option.some.inj ei3
  obtain ⟨i4, ei4⟩ := is_v g5
  obtain rfl : w4 = (.int i4) := Option.some.inj ei4
  obtain ⟨i5, ei5⟩ := is_v r5
  obtain rfl : w5 = (.int i5) := Option.some.inj ei5
  have n5 := not_v (Cond.before_iff.mp (hsets _ (List.mem_of_getElem? (i := 2) rfl)))
  obtain ⟨zc, ezc⟩ := is_v (Cond.before_iff.mp (hsets _ (List.mem_of_getElem? (i := 1) rfl)))
  have SC : Sta s s.heap "java/lang/String" "COMPACT_STRINGS" "Z" (.int zc) := Sta.start ezc (Or.inl (hsets _ (List.mem_of_getElem? (i := 0) rfl)))
  have hzc : ¬ (zc = (0 : Int32)) := gotF (Cond.eq_ints ezc (Term.int_eval (0))) n5
  have hEL : EW s _ consts_1 := (EW.cons (text := own_text 71) (hw _ (List.mem_of_getElem? (i := 71) rfl)) (by decide +kernel) (EW.cons (text := own_text 76) (hw _ (List.mem_of_getElem? (i := 76) rfl)) (by decide +kernel) (EW.cons (text := own_text 77) (hw _ (List.mem_of_getElem? (i := 77) rfl)) (by decide +kernel) (EW.cons (text := own_text 84) (hw _ (List.mem_of_getElem? (i := 84) rfl)) (by decide +kernel) EW.nil))))
  have hCH : CHv s consts_1 s.vm s.heap := CHv.start hEL (fun q hq => hcalls.1 q hq) (hsets _ (List.mem_of_getElem? (i := 2) rfl)) (hw _ (List.mem_of_getElem? (i := 23) rfl)) (hw _ (List.mem_of_getElem? (i := 6) rfl))
  obtain ⟨c0, q0⟩ := and_e hn
  obtain ⟨c1, q1⟩ := and_e q0
  obtain ⟨c2, q2⟩ := and_e q1
  obtain ⟨c3, q3⟩ := and_e q2
  obtain ⟨c4, q4⟩ := and_e q3
  obtain ⟨c5, q5⟩ := and_e q4
  obtain ⟨c6, q6⟩ := and_e q5
  obtain ⟨c7, q7⟩ := and_e q6
  obtain ⟨c8, q8⟩ := and_e q7
  obtain ⟨c9, q9⟩ := and_e q8
  obtain ⟨c10, q10⟩ := and_e q9
  obtain ⟨c11, q11⟩ := and_e q10
  obtain ⟨c12, q12⟩ := and_e q11
  obtain ⟨c13, q13⟩ := and_e q12
  obtain ⟨c14, q14⟩ := and_e q13
  obtain ⟨c15, q15⟩ := and_e q14
  obtain ⟨c16, q16⟩ := and_e q15
  obtain ⟨c17, q17⟩ := and_e q16
  obtain ⟨c18, q18⟩ := and_e q17
  obtain ⟨c19, q19⟩ := and_e q18
  obtain ⟨c20, q20⟩ := and_e q19
  obtain ⟨c21, q21⟩ := and_e q20
  obtain ⟨c22, q22⟩ := and_e q21
  obtain ⟨c23, q23⟩ := and_e q22
  obtain ⟨c24, q24⟩ := and_e q23
  obtain ⟨c25, q25⟩ := and_e q24
  obtain ⟨c26, q26⟩ := and_e q25
  obtain ⟨c27, q27⟩ := and_e q26
  obtain ⟨c28, q28⟩ := and_e q27
  obtain ⟨c29, q29⟩ := and_e q28
  obtain ⟨c30, q30⟩ := and_e q29
  obtain ⟨c31, q31⟩ := and_e q30
  obtain ⟨c32, q32⟩ := and_e q31
  obtain ⟨c33, q33⟩ := and_e q32
  obtain ⟨c34, q34⟩ := and_e q33
  obtain ⟨c35, q35⟩ := and_e q34
  obtain ⟨c36, q36⟩ := and_e q35
  obtain ⟨c37, q37⟩ := and_e q36
  obtain ⟨c38, q38⟩ := and_e q37
  obtain ⟨c39, q39⟩ := and_e q38
  obtain ⟨c40, q40⟩ := and_e q39
  obtain ⟨c41, q41⟩ := and_e q40
  obtain ⟨c42, q42⟩ := and_e q41
  obtain ⟨c43, q43⟩ := and_e q42
  obtain ⟨c44, q44⟩ := and_e q43
  obtain ⟨c45, q45⟩ := and_e q44
  obtain ⟨c46, q46⟩ := and_e q45
  obtain ⟨c47, q47⟩ := and_e q46
  obtain ⟨c48, q48⟩ := and_e q47
  obtain ⟨c49, q49⟩ := and_e q48
  obtain ⟨c50, q50⟩ := and_e q49
  obtain ⟨c51, q51⟩ := and_e q50
  obtain ⟨c52, q52⟩ := and_e q51
  have c53 := q52
  obtain ⟨va, eva⟩ := arr_v c0
  obtain ⟨cv, AV0⟩ := Arr.start eva c0
  have EV := Exa.start eva c1
  obtain ⟨lv1, lv2⟩ := own_len eva AV0 c2
  obtain ⟨t0, et0⟩ := exa_v c3
  obtain ⟨t1, et1⟩ := exa_v c5
  obtain ⟨t2, et2⟩ := exa_v c7
  have SV : Sta s s.heap "com/example/tidy_shelf/tidyshelf/catalogue/BookSort" "$VALUES" "[Lcom/example/tidy_shelf/tidyshelf/catalogue/BookSort;" (.ref va) := Sta.start eva (Or.inr ⟨(hw _ (List.mem_of_getElem? (i := 36) rfl)), (hw _ (List.mem_of_getElem? (i := 42) rfl))⟩)
  have ST0 : Sta s s.heap "com/example/tidy_shelf/tidyshelf/catalogue/BookSort" "TITLE" "Lcom/example/tidy_shelf/tidyshelf/catalogue/BookSort;" (.ref t0) := Sta.start et0 (Or.inr ⟨(hw _ (List.mem_of_getElem? (i := 36) rfl)), (hw _ (List.mem_of_getElem? (i := 50) rfl))⟩)
  have ST1 : Sta s s.heap "com/example/tidy_shelf/tidyshelf/catalogue/BookSort" "PUBLISHED_DATE" "Lcom/example/tidy_shelf/tidyshelf/catalogue/BookSort;" (.ref t1) := Sta.start et1 (Or.inr ⟨(hw _ (List.mem_of_getElem? (i := 36) rfl)), (hw _ (List.mem_of_getElem? (i := 51) rfl))⟩)
  have ST2 : Sta s s.heap "com/example/tidy_shelf/tidyshelf/catalogue/BookSort" "AVAILABLE_COPIES" "Lcom/example/tidy_shelf/tidyshelf/catalogue/BookSort;" (.ref t2) := Sta.start et2 (Or.inr ⟨(hw _ (List.mem_of_getElem? (i := 36) rfl)), (hw _ (List.mem_of_getElem? (i := 52) rfl))⟩)
  have AV : Arv s s.heap va cv.cls (.object "com/example/tidy_shelf/tidyshelf/catalogue/BookSort") 3 [.ref t0, .ref t1, .ref t2] .null := Arv.start hfit AV0 lv1 lv2 (by decide) rfl ⟨own_elR eva AV0.1 et0 c4, own_elR eva AV0.1 et1 c6, own_elR eva AV0.1 et2 c8, trivial⟩
  obtain ⟨q_0, eq0⟩ := exa_v c9
  have FQ0 : Fld s s.heap t0 "com/example/tidy_shelf/tidyshelf/catalogue/BookSort" "queryName" "Ljava/lang/String;" (.ref q_0) := Fld.start ((fld_at et0).symm.trans eq0)
  have SQ0 : OStr s s.heap q_0 own_t0 := own_strZ hfit eq0 c9 c10 c11 c12 (by decide) (by decide) (by decide) (by decide) (fun b cell eb hcell => ⟨own_el eb hcell c21, own_el eb hcell c22, own_el eb hcell c23, own_el eb hcell c24, own_el eb hcell c25, trivial⟩)
  obtain ⟨q_1, eq1⟩ := exa_v c13
  have FQ1 : Fld s s.heap t1 "com/example/tidy_shelf/tidyshelf/catalogue/BookSort" "queryName" "Ljava/lang/String;" (.ref q_1) := Fld.start ((fld_at et1).symm.trans eq1)
  have SQ1 : OStr s s.heap q_1 own_t1 := own_strZ hfit eq1 c13 c14 c15 c16 (by decide) (by decide) (by decide) (by decide) (fun b cell eb hcell => ⟨own_el eb hcell c26, own_el eb hcell c27, own_el eb hcell c28, own_el eb hcell c29, own_el eb hcell c30, own_el eb hcell c31, own_el eb hcell c32, own_el eb hcell c33, own_el eb hcell c34, own_el eb hcell c35, own_el eb hcell c36, own_el eb hcell c37, own_el eb hcell c38, trivial⟩)
  obtain ⟨q_2, eq2⟩ := exa_v c17
  have FQ2 : Fld s s.heap t2 "com/example/tidy_shelf/tidyshelf/catalogue/BookSort" "queryName" "Ljava/lang/String;" (.ref q_2) := Fld.start ((fld_at et2).symm.trans eq2)
  have SQ2 : OStr s s.heap q_2 own_t2 := own_strZ hfit eq2 c17 c18 c19 c20 (by decide) (by decide) (by decide) (by decide) (fun b cell eb hcell => ⟨own_el eb hcell c39, own_el eb hcell c40, own_el eb hcell c41, own_el eb hcell c42, own_el eb hcell c43, own_el eb hcell c44, own_el eb hcell c45, own_el eb hcell c46, own_el eb hcell c47, own_el eb hcell c48, own_el eb hcell c49, own_el eb hcell c50, own_el eb hcell c51, own_el eb hcell c52, own_el eb hcell c53, trivial⟩)
  obtain ⟨n, o, h1, h2, h3, v, SFo, rfl, rfl, -, -, hq⟩ := con_law l s _ hw hEL va t0 t1 t2 q_0 q_1 q_2 cv.cls zc SV AV EV FQ0 SQ0 FQ1 SQ1 FQ2 SQ2 SC hzc ST0 ST1 ST2 i0 i1 i2 i3 i4 i5 s.heap (own_ext_rf _) p e ha hc hk s m _ below hf ((Spec.applies_iff_loose hf).mp happ).1 ⟨rfl, State.Warmed39.refl s, rfl, hCH, fun q hq => nomatch hq⟩ trivial
  exact ⟨n, _, h1, h2, h3, hpost _ _ _ _ _ _ ⟨Cond.after_iff.mpr rfl, Cond.after_iff.mpr (eq_i res_at (Term.int_eval (1)) rfl), trivial⟩ hq⟩
theorem main_1_1 : Claimed_1_1 := comes_1 fun _ _ _ _ _ _ h hF => ⟨h.1, hF⟩
theorem main_1_2 : Claimed_1_2 := comes_1 fun _ _ _ _ _ _ h hF => ⟨h.2.1, hF⟩
end Jvm.Pilot.@@N@@
namespace Jvm.Pilot.@@N@@
open Jvm Jvm.ClassFile Sem Op Lib Jvm.Free Jvm.Stand Jvm.Pilot.@@N@@.Jvm.D
/-! MADE BY PROGRAM (witnessworld.py) out of the Statement's table words and the real class files: 22 classes; the members and pool entries that the words name. The judged class is class 1, her method 1. -/
namespace start1
open Jvm.ClassFile
def u (s : String) : CpInfo := .utf8 (stringToUtf16 s)
/-- a pool by its gaps: so many unusable entries, then the entry; so many at the end -/
def gap : Nat → List CpInfo → List CpInfo
  | 0, r => r
  | n + 1, r => .unusable :: gap n r
def poolList (es : List (Nat × CpInfo)) (last : Nat) : List CpInfo := es.foldr (fun e r => gap e.1 (e.2 :: r)) (gap last [])
def pool (es : List (Nat × CpInfo)) (last : Nat) : Array CpInfo := ⟨poolList es last⟩
def fileOf (pool : Array CpInfo) (this : Nat) (attrs : Array Attribute := #[]) (ms : Array MethodInfo := #[]) (fl : Nat := 33) (sup : Nat := 0) (ifs : Array Nat := #[]) (fds : Array FieldInfo := #[]) : ClassFile where
  minorVersion := 0
  majorVersion := 65
  constantPool := pool
  accessFlags := fl
  thisClass := this
  superClass := sup
  interfaces := ifs
  fields := fds
  methods := ms
  attributes := attrs
def plain (name : String) (sup : Option ClassId) : Class where
  name := name
  kind := .ordinary
  loader := none
  accessFlags := 33
  super := sup
  interfaces := #[]
  cf := none
  fields := #[]
  methods := #[]
  instanceTypes := #[]
  staticTypes := #[]
  resolved := #[]
  callSites := []
  init := .initialized
  statics := none
  mirror := none

def pool0 : Array CpInfo := pool [(5, u "<init>"), (0, u "()V"), (1, .class_ 10), (1, u "java/lang/Object"), (85, u "clone"), (0, u "()Ljava/lang/Object;")] 26

def k0c0 : Code := { maxStack := 0, maxLocals := 1, code := object_method_1_code, exceptionTable := #[], attributes := #[] }
def k0m0 : Method := { name := "<init>", desc := "()V", sig := { parameters := [], returnType := none }, accessFlags := 1, code := some k0c0 }
def k0m1 : Method := { name := "clone", desc := "()Ljava/lang/Object;", sig := { parameters := [], returnType := some (.object "java/lang/Object") }, accessFlags := 260, code := none }
/-- java/lang/Object -/
def k0 : Class := { plain "java/lang/Object" none with
  accessFlags := 33
  interfaces := #[]
  cf := some (fileOf pool0 8 #[] #[{ accessFlags := 1, nameIndex := 5, descriptorIndex := 6, attributes := #[] }, { accessFlags := 260, nameIndex := 96, descriptorIndex := 97, attributes := #[] }] 33 0 #[] #[])
  fields := #[]
  methods := #[k0m0, k0m1]
  instanceTypes := #[]
  staticTypes := #[]
  resolved := Array.replicate 124 none
  statics := none }

def pool1 : Array CpInfo := pool [(2, .class_ 4), (1, u "java/lang/Object"), (0, u "<init>"), (0, u "()V"), (0, .class_ 8), (0, u "java/lang/String"), (0, .methodref 10 11), (0, .class_ 12), (0, .nameAndType 13 14), (0, u "com/example/tidy_shelf/tidyshelf/catalogue/BookSortNamedPinLaw"), (0, u "drawn"), (0, u "(IIII)[C"), (0, .methodref 7 16), (0, .nameAndType 5 17), (0, u "([C)V"), (0, .methodref 10 19), (0, .nameAndType 20 21), (0, u "base"), (0, u "(III)[C"), (0, .integer 2147483647), (0, .methodref 24 25), (0, .class_ 26), (0, .nameAndType 27 28), (0, u "com/example/tidy_shelf/tidyshelf/catalogue/BookSort"), (0, u "named"), (0, u "(Ljava/lang/String;)Lcom/example/tidy_shelf/tidyshelf/catalogue/BookSort;"), (0, .methodref 10 30), (0, .nameAndType 31 28), (0, u "expected"), (0, .string 33), (0, u "title"), (0, .methodref 7 35), (0, .nameAndType 36 37), (0, u "equals"), (0, u "(Ljava/lang/Object;)Z"), (0, .fieldref 24 39), (0, .nameAndType 40 41), (0, u "TITLE"), (0, u "Lcom/example/tidy_shelf/tidyshelf/catalogue/BookSort;"), (0, .string 43), (0, u "publishedDate"), (0, .fieldref 24 45), (0, .nameAndType 46 41), (0, u "PUBLISHED_DATE"), (0, .string 48), (0, u "availableCopies"), (0, .fieldref 24 50), (0, .nameAndType 51 41), (0, u "AVAILABLE_COPIES"), (2, u "law"), (0, u "(IIIIII)Z")] 5

def k1m0 : Method := { name := "<init>", desc := "()V", sig := { parameters := [], returnType := none }, accessFlags := 1, code := none }
def k1c1 : Code := { maxStack := 6, maxLocals := 11, code := code, exceptionTable := #[], attributes := #[] }
def k1m1 : Method := { name := "law", desc := "(IIIIII)Z", sig := { parameters := [.int, .int, .int, .int, .int, .int], returnType := some .boolean }, accessFlags := 9, code := some k1c1 }
def k1c2 : Code := { maxStack := 2, maxLocals := 1, code := method_3_code, exceptionTable := #[], attributes := #[] }
def k1m2 : Method := { name := "expected", desc := "(Ljava/lang/String;)Lcom/example/tidy_shelf/tidyshelf/catalogue/BookSort;", sig := { parameters := [(.object "java/lang/String")], returnType := some (.object "com/example/tidy_shelf/tidyshelf/catalogue/BookSort") }, accessFlags := 10, code := some k1c2 }
def k1c3 : Code := { maxStack := 4, maxLocals := 7, code := method_4_code, exceptionTable := #[], attributes := #[] }
def k1m3 : Method := { name := "drawn", desc := "(IIII)[C", sig := { parameters := [.int, .int, .int, .int], returnType := some (.array .char) }, accessFlags := 10, code := some k1c3 }
def k1c4 : Code := { maxStack := 4, maxLocals := 4, code := method_5_code, exceptionTable := #[], attributes := #[] }
def k1m4 : Method := { name := "base", desc := "(III)[C", sig := { parameters := [.int, .int, .int], returnType := some (.array .char) }, accessFlags := 10, code := some k1c4 }
/-- com/example/tidy_shelf/tidyshelf/catalogue/BookSortNamedPinLaw -/
def k1 : Class := { plain "com/example/tidy_shelf/tidyshelf/catalogue/BookSortNamedPinLaw" (some 0) with
  accessFlags := 49
  interfaces := #[]
  cf := some (fileOf pool1 10 #[] #[{ accessFlags := 1, nameIndex := 5, descriptorIndex := 6, attributes := #[] }, { accessFlags := 9, nameIndex := 54, descriptorIndex := 55, attributes := #[] }, { accessFlags := 10, nameIndex := 31, descriptorIndex := 28, attributes := #[] }, { accessFlags := 10, nameIndex := 13, descriptorIndex := 14, attributes := #[] }, { accessFlags := 10, nameIndex := 20, descriptorIndex := 21, attributes := #[] }] 49 2 #[] #[])
  fields := #[]
  methods := #[k1m0, k1m1, k1m2, k1m3, k1m4]
  instanceTypes := #[]
  staticTypes := #[]
  resolved := Array.replicate 61 none
  statics := none }

def pool2 : Array CpInfo := pool [(1, .class_ 2), (0, u "java/io/Serializable"), (0, .class_ 4), (0, u "java/lang/Object")] 2

/-- java/io/Serializable -/
def k2 : Class := { plain "java/io/Serializable" (some 0) with
  accessFlags := 1537
  interfaces := #[]
  cf := some (fileOf pool2 1 #[] #[] 1537 3 #[] #[])
  fields := #[]
  methods := #[]
  instanceTypes := #[]
  staticTypes := #[]
  resolved := Array.replicate 7 none
  statics := none }

def pool3 : Array CpInfo := pool [(1, .class_ 2), (0, u "java/lang/Comparable"), (0, .class_ 4), (0, u "java/lang/Object")] 7

/-- java/lang/Comparable -/
def k3 : Class := { plain "java/lang/Comparable" (some 0) with
  accessFlags := 1537
  interfaces := #[]
  cf := some (fileOf pool3 1 #[] #[] 1537 3 #[] #[])
  fields := #[]
  methods := #[]
  instanceTypes := #[]
  staticTypes := #[]
  resolved := Array.replicate 12 none
  statics := none }

def pool4 : Array CpInfo := pool [(2, .class_ 4), (1, u "java/lang/CharSequence"), (42, .class_ 48), (0, u "java/lang/CharSequence$1CodePointIterator"), (10, .class_ 60), (0, u "java/lang/CharSequence$1CharIterator"), (5, .class_ 67), (0, u "java/lang/Object")] 63

/-- java/lang/CharSequence -/
def k4 : Class := { plain "java/lang/CharSequence" (some 0) with
  accessFlags := 1537
  interfaces := #[]
  cf := some (fileOf pool4 2 #[.nestMembers #[47, 59]] #[] 1537 66 #[] #[])
  fields := #[]
  methods := #[]
  instanceTypes := #[]
  staticTypes := #[]
  resolved := Array.replicate 131 none
  statics := none }

def pool5 : Array CpInfo := pool [(1, .class_ 2), (0, u "java/lang/constant/Constable"), (0, .class_ 4), (0, u "java/lang/Object")] 6

/-- java/lang/constant/Constable -/
def k5 : Class := { plain "java/lang/constant/Constable" (some 0) with
  accessFlags := 1537
  interfaces := #[]
  cf := some (fileOf pool5 1 #[] #[] 1537 3 #[] #[])
  fields := #[]
  methods := #[]
  instanceTypes := #[]
  staticTypes := #[]
  resolved := Array.replicate 11 none
  statics := none }

def pool6 : Array CpInfo := pool [(1, .class_ 2), (0, u "java/lang/constant/ConstantDesc"), (0, .class_ 4), (0, u "java/lang/Object")] 32

/-- java/lang/constant/ConstantDesc -/
def k6 : Class := { plain "java/lang/constant/ConstantDesc" (some 0) with
  accessFlags := 1537
  interfaces := #[]
  cf := some (fileOf pool6 1 #[] #[] 1537 3 #[] #[])
  fields := #[]
  methods := #[]
  instanceTypes := #[]
  staticTypes := #[]
  resolved := Array.replicate 37 none
  statics := none }

def pool7 : Array CpInfo := pool [(1, .methodref 2 3), (0, .class_ 4), (0, .nameAndType 5 6), (0, u "java/lang/Object"), (0, u "<init>"), (0, u "()V"), (0, .string 8), (0, u ""), (0, .fieldref 10 11), (0, .class_ 12), (0, .nameAndType 13 14), (0, u "java/lang/String"), (0, u "value"), (0, u "[B"), (0, .fieldref 10 16), (0, .nameAndType 17 18), (0, u "coder"), (0, u "B"), (2, u "hash"), (0, u "I"), (2, u "hashIsZero"), (0, u "Z"), (0, .methodref 10 28), (0, .nameAndType 5 29), (0, u "([CIILjava/lang/Void;)V"), (8, .fieldref 10 39), (0, .nameAndType 40 26), (0, u "COMPACT_STRINGS"), (1, .class_ 44), (1, u "java/lang/StringUTF16"), (0, u "compress"), (1, .methodref 42 48), (0, .nameAndType 49 50), (0, u "coderFromArrayLen"), (0, u "([BI)B"), (56, .class_ 109), (1, u "java/lang/StringLatin1"), (67, .methodref 42 178), (0, .nameAndType 45 179), (0, u "([CII)[B"), (361, .methodref 107 542), (0, .nameAndType 543 544), (0, u "equals"), (0, u "([B[B)Z"), (28, u "(Ljava/lang/Object;)Z"), (1, .class_ 576), (0, u "java/lang/CharSequence"), (22, u "CASE_INSENSITIVE_ORDER"), (0, u "Ljava/util/Comparator;"), (409, u "([C)V"), (90, u "serialPersistentFields"), (0, u "[Ljava/io/ObjectStreamField;"), (0, .class_ 1104), (0, u "java/lang/String$CaseInsensitiveComparator"), (1, .class_ 1107), (0, u "java/io/Serializable"), (0, .class_ 1109), (0, u "java/lang/Comparable"), (0, .class_ 1111), (0, u "java/lang/constant/Constable"), (0, .class_ 1113), (0, u "java/lang/constant/ConstantDesc"), (2, u "serialVersionUID"), (0, u "J"), (3, u "REPL"), (0, u "C"), (2, u "LATIN1"), (1, u "UTF16")] 323

def k7m0 : Method := { name := "<init>", desc := "()V", sig := { parameters := [], returnType := none }, accessFlags := 1, code := none }
def k7c1 : Code := { maxStack := 5, maxLocals := 2, code := jdk_42_method_3_code, exceptionTable := #[], attributes := #[] }
def k7m1 : Method := { name := "<init>", desc := "([C)V", sig := { parameters := [(.array .char)], returnType := none }, accessFlags := 1, code := some k7c1 }
def k7c2 : Code := { maxStack := 2, maxLocals := 3, code := jdk_42_method_66_code, exceptionTable := #[], attributes := #[] }
def k7m2 : Method := { name := "equals", desc := "(Ljava/lang/Object;)Z", sig := { parameters := [(.object "java/lang/Object")], returnType := some .boolean }, accessFlags := 1, code := some k7c2 }
def k7c3 : Code := { maxStack := 4, maxLocals := 6, code := jdk_42_method_149_code, exceptionTable := #[], attributes := #[] }
def k7m3 : Method := { name := "<init>", desc := "([CIILjava/lang/Void;)V", sig := { parameters := [(.array .char), .int, .int, (.object "java/lang/Void")], returnType := none }, accessFlags := 2, code := some k7c3 }
/-- java/lang/String -/
def k7 : Class := { plain "java/lang/String" (some 0) with
  accessFlags := 49
  interfaces := #[2, 3, 4, 5, 6]
  cf := some (fileOf pool7 10 #[.nestMembers #[1103]] #[{ accessFlags := 1, nameIndex := 5, descriptorIndex := 6, attributes := #[] }, { accessFlags := 1, nameIndex := 5, descriptorIndex := 1010, attributes := #[] }, { accessFlags := 1, nameIndex := 543, descriptorIndex := 573, attributes := #[] }, { accessFlags := 2, nameIndex := 5, descriptorIndex := 29, attributes := #[] }] 49 2 #[1106, 1108, 575, 1110, 1112] #[{ accessFlags := 18, nameIndex := 13, descriptorIndex := 14, attributes := #[] }, { accessFlags := 18, nameIndex := 17, descriptorIndex := 18, attributes := #[] }, { accessFlags := 2, nameIndex := 21, descriptorIndex := 22, attributes := #[] }, { accessFlags := 2, nameIndex := 25, descriptorIndex := 26, attributes := #[] }, { accessFlags := 26, nameIndex := 1116, descriptorIndex := 1117, attributes := #[] }, { accessFlags := 24, nameIndex := 40, descriptorIndex := 26, attributes := #[] }, { accessFlags := 26, nameIndex := 1101, descriptorIndex := 1102, attributes := #[] }, { accessFlags := 26, nameIndex := 1121, descriptorIndex := 1122, attributes := #[] }, { accessFlags := 25, nameIndex := 599, descriptorIndex := 600, attributes := #[] }, { accessFlags := 24, nameIndex := 1125, descriptorIndex := 18, attributes := #[] }, { accessFlags := 24, nameIndex := 1127, descriptorIndex := 18, attributes := #[] }])
  fields := #[{ name := "value", type := (.array .byte), accessFlags := 18, slot := 0, constantValue := 0 }, { name := "coder", type := .byte, accessFlags := 18, slot := 1, constantValue := 0 }, { name := "hash", type := .int, accessFlags := 2, slot := 2, constantValue := 0 }, { name := "hashIsZero", type := .boolean, accessFlags := 2, slot := 3, constantValue := 0 }, { name := "serialVersionUID", type := .long, accessFlags := 26, slot := 0, constantValue := 0 }, { name := "COMPACT_STRINGS", type := .boolean, accessFlags := 24, slot := 1, constantValue := 0 }, { name := "serialPersistentFields", type := (.array (.object "java/io/ObjectStreamField")), accessFlags := 26, slot := 2, constantValue := 0 }, { name := "REPL", type := .char, accessFlags := 26, slot := 3, constantValue := 0 }, { name := "CASE_INSENSITIVE_ORDER", type := (.object "java/util/Comparator"), accessFlags := 25, slot := 4, constantValue := 0 }, { name := "LATIN1", type := .byte, accessFlags := 24, slot := 5, constantValue := 0 }, { name := "UTF16", type := .byte, accessFlags := 24, slot := 6, constantValue := 0 }]
  methods := #[k7m0, k7m1, k7m2, k7m3]
  instanceTypes := #[(.array .byte), .byte, .int, .boolean]
  staticTypes := #[.long, .boolean, (.array (.object "java/io/ObjectStreamField")), .char, (.object "java/util/Comparator"), .byte, .byte]
  resolved := Array.replicate 1451 none
  statics := some 0 }

def pool8 : Array CpInfo := pool [(6, .class_ 8), (1, u "java/lang/Object"), (0, u "<init>"), (0, u "()V"), (1, .class_ 14), (1, u "java/lang/StringUTF16"), (31, u "$assertionsDisabled"), (0, u "Z"), (13, u "HI_BYTE_SHIFT"), (0, u "I"), (2, u "LO_BYTE_SHIFT"), (49, .methodref 12 116), (0, .nameAndType 117 118), (0, u "compress"), (0, u "([CI[BII)I"), (3, u "([CII)[B"), (138, u "coderFromArrayLen"), (0, u "([BI)B"), (106, .class_ 371), (1, u "java/lang/StringUTF16$LinesSpliterator"), (58, u "MAX_LENGTH"), (196, .class_ 628), (0, u "java/lang/StringUTF16$CodePointsSpliterator"), (0, .class_ 630), (0, u "java/lang/StringUTF16$CharsSpliterator")] 4

def k8m0 : Method := { name := "<init>", desc := "()V", sig := { parameters := [], returnType := none }, accessFlags := 0, code := none }
def k8c1 : Code := { maxStack := 2, maxLocals := 2, code := jdk_52_method_15_code, exceptionTable := #[], attributes := #[] }
def k8m1 : Method := { name := "coderFromArrayLen", desc := "([BI)B", sig := { parameters := [(.array .byte), .int], returnType := some .byte }, accessFlags := 8, code := some k8c1 }
def k8c2 : Code := { maxStack := 5, maxLocals := 6, code := jdk_52_method_16_code, exceptionTable := #[], attributes := #[] }
def k8m2 : Method := { name := "compress", desc := "([CII)[B", sig := { parameters := [(.array .char), .int, .int], returnType := some (.array .byte) }, accessFlags := 9, code := some k8c2 }
def k8c3 : Code := { maxStack := 3, maxLocals := 7, code := jdk_52_method_21_code, exceptionTable := #[], attributes := #[] }
def k8m3 : Method := { name := "compress", desc := "([CI[BII)I", sig := { parameters := [(.array .char), .int, (.array .byte), .int, .int], returnType := some .int }, accessFlags := 9, code := some k8c3 }
/-- java/lang/StringUTF16 -/
def k8 : Class := { plain "java/lang/StringUTF16" (some 0) with
  accessFlags := 48
  interfaces := #[]
  cf := some (fileOf pool8 12 #[.nestMembers #[627, 629, 369]] #[{ accessFlags := 0, nameIndex := 9, descriptorIndex := 10, attributes := #[] }, { accessFlags := 8, nameIndex := 261, descriptorIndex := 262, attributes := #[] }, { accessFlags := 9, nameIndex := 117, descriptorIndex := 122, attributes := #[] }, { accessFlags := 9, nameIndex := 117, descriptorIndex := 118, attributes := #[] }] 48 6 #[] #[{ accessFlags := 26, nameIndex := 61, descriptorIndex := 62, attributes := #[] }, { accessFlags := 26, nameIndex := 65, descriptorIndex := 62, attributes := #[] }, { accessFlags := 24, nameIndex := 430, descriptorIndex := 62, attributes := #[] }, { accessFlags := 4120, nameIndex := 46, descriptorIndex := 47, attributes := #[] }])
  fields := #[{ name := "HI_BYTE_SHIFT", type := .int, accessFlags := 26, slot := 0, constantValue := 0 }, { name := "LO_BYTE_SHIFT", type := .int, accessFlags := 26, slot := 1, constantValue := 0 }, { name := "MAX_LENGTH", type := .int, accessFlags := 24, slot := 2, constantValue := 0 }, { name := "$assertionsDisabled", type := .boolean, accessFlags := 4120, slot := 3, constantValue := 0 }]
  methods := #[k8m0, k8m1, k8m2, k8m3]
  instanceTypes := #[]
  staticTypes := #[.int, .int, .int, .boolean]
  resolved := Array.replicate 635 none
  statics := none }

def pool9 : Array CpInfo := pool [(2, .class_ 4), (1, u "java/lang/Enum"), (0, u "name"), (0, u "Ljava/lang/String;"), (2, u "ordinal"), (0, u "I"), (1, .class_ 14), (1, u "java/lang/Object"), (4, u "hash"), (86, .class_ 108), (1, u "java/lang/Enum$EnumDesc"), (2, .class_ 112), (0, u "java/lang/constant/Constable"), (0, .class_ 114), (0, u "java/lang/Comparable"), (0, .class_ 116), (0, u "java/io/Serializable")] 87

/-- java/lang/Enum -/
def k9 : Class := { plain "java/lang/Enum" (some 0) with
  accessFlags := 1057
  interfaces := #[5, 3, 2]
  cf := some (fileOf pool9 2 #[.nestMembers #[106]] #[] 1057 12 #[111, 113, 115] #[{ accessFlags := 18, nameIndex := 5, descriptorIndex := 6, attributes := #[] }, { accessFlags := 18, nameIndex := 9, descriptorIndex := 10, attributes := #[] }, { accessFlags := 2, nameIndex := 19, descriptorIndex := 10, attributes := #[] }])
  fields := #[{ name := "name", type := (.object "java/lang/String"), accessFlags := 18, slot := 0, constantValue := 0 }, { name := "ordinal", type := .int, accessFlags := 18, slot := 1, constantValue := 0 }, { name := "hash", type := .int, accessFlags := 2, slot := 2, constantValue := 0 }]
  methods := #[]
  instanceTypes := #[(.object "java/lang/String"), .int, .int]
  staticTypes := #[]
  resolved := Array.replicate 204 none
  statics := none }

def pool10 : Array CpInfo := pool [(1, .class_ 2), (0, u "com/example/tidy_shelf/tidyshelf/catalogue/BookSort"), (2, u "TITLE"), (0, u "Lcom/example/tidy_shelf/tidyshelf/catalogue/BookSort;"), (2, u "PUBLISHED_DATE"), (2, u "AVAILABLE_COPIES"), (0, .fieldref 1 14), (0, .nameAndType 15 16), (0, u "$VALUES"), (0, u "[Lcom/example/tidy_shelf/tidyshelf/catalogue/BookSort;"), (0, .methodref 18 19), (0, .class_ 16), (0, .nameAndType 20 21), (0, u "clone"), (0, u "()Ljava/lang/Object;"), (1, .class_ 25), (1, u "java/lang/Enum"), (6, .fieldref 1 33), (0, .nameAndType 34 35), (0, u "queryName"), (0, u "Ljava/lang/String;"), (2, u "column"), (0, .methodref 1 40), (0, .nameAndType 41 42), (0, u "values"), (0, u "()[Lcom/example/tidy_shelf/tidyshelf/catalogue/BookSort;"), (0, .methodref 44 45), (0, .class_ 46), (0, .nameAndType 47 48), (0, u "java/lang/String"), (0, u "equals"), (0, u "(Ljava/lang/Object;)Z"), (38, u "(Ljava/lang/String;)Lcom/example/tidy_shelf/tidyshelf/catalogue/BookSort;"), (3, u "named")] 7

def k10c0 : Code := { maxStack := 1, maxLocals := 0, code := prog_4_method_1_code, exceptionTable := #[], attributes := #[] }
def k10m0 : Method := { name := "values", desc := "()[Lcom/example/tidy_shelf/tidyshelf/catalogue/BookSort;", sig := { parameters := [], returnType := some (.array (.object "com/example/tidy_shelf/tidyshelf/catalogue/BookSort")) }, accessFlags := 9, code := some k10c0 }
def k10c1 : Code := { maxStack := 2, maxLocals := 6, code := prog_4_method_4_code, exceptionTable := #[], attributes := #[] }
def k10m1 : Method := { name := "named", desc := "(Ljava/lang/String;)Lcom/example/tidy_shelf/tidyshelf/catalogue/BookSort;", sig := { parameters := [(.object "java/lang/String")], returnType := some (.object "com/example/tidy_shelf/tidyshelf/catalogue/BookSort") }, accessFlags := 8, code := some k10c1 }
/-- com/example/tidy_shelf/tidyshelf/catalogue/BookSort -/
def k10 : Class := { plain "com/example/tidy_shelf/tidyshelf/catalogue/BookSort" (some 9) with
  accessFlags := 16432
  interfaces := #[]
  cf := some (fileOf pool10 1 #[] #[{ accessFlags := 9, nameIndex := 41, descriptorIndex := 42, attributes := #[] }, { accessFlags := 8, nameIndex := 91, descriptorIndex := 87, attributes := #[] }] 16432 23 #[] #[{ accessFlags := 16409, nameIndex := 5, descriptorIndex := 6, attributes := #[] }, { accessFlags := 16409, nameIndex := 9, descriptorIndex := 6, attributes := #[] }, { accessFlags := 16409, nameIndex := 12, descriptorIndex := 6, attributes := #[] }, { accessFlags := 18, nameIndex := 34, descriptorIndex := 35, attributes := #[] }, { accessFlags := 18, nameIndex := 38, descriptorIndex := 35, attributes := #[] }, { accessFlags := 4122, nameIndex := 15, descriptorIndex := 16, attributes := #[] }])
  fields := #[{ name := "TITLE", type := (.object "com/example/tidy_shelf/tidyshelf/catalogue/BookSort"), accessFlags := 16409, slot := 0, constantValue := 0 }, { name := "PUBLISHED_DATE", type := (.object "com/example/tidy_shelf/tidyshelf/catalogue/BookSort"), accessFlags := 16409, slot := 1, constantValue := 0 }, { name := "AVAILABLE_COPIES", type := (.object "com/example/tidy_shelf/tidyshelf/catalogue/BookSort"), accessFlags := 16409, slot := 2, constantValue := 0 }, { name := "queryName", type := (.object "java/lang/String"), accessFlags := 18, slot := 3, constantValue := 0 }, { name := "column", type := (.object "java/lang/String"), accessFlags := 18, slot := 4, constantValue := 0 }, { name := "$VALUES", type := (.array (.object "com/example/tidy_shelf/tidyshelf/catalogue/BookSort")), accessFlags := 4122, slot := 3, constantValue := 0 }]
  methods := #[k10m0, k10m1]
  instanceTypes := #[(.object "java/lang/String"), .int, .int, (.object "java/lang/String"), (.object "java/lang/String")]
  staticTypes := #[(.object "com/example/tidy_shelf/tidyshelf/catalogue/BookSort"), (.object "com/example/tidy_shelf/tidyshelf/catalogue/BookSort"), (.object "com/example/tidy_shelf/tidyshelf/catalogue/BookSort"), (.array (.object "com/example/tidy_shelf/tidyshelf/catalogue/BookSort"))]
  resolved := Array.replicate 99 none
  statics := some 1 }

def pool11 : Array CpInfo := pool [(1, .class_ 2), (0, u "java/lang/Cloneable"), (0, .class_ 4), (0, u "java/lang/Object")] 2

/-- java/lang/Cloneable -/
def k11 : Class := { plain "java/lang/Cloneable" (some 0) with
  accessFlags := 1537
  interfaces := #[]
  cf := some (fileOf pool11 1 #[] #[] 1537 3 #[] #[])
  fields := #[]
  methods := #[]
  instanceTypes := #[]
  staticTypes := #[]
  resolved := Array.replicate 7 none
  statics := none }

def pool12 : Array CpInfo := pool [(4, .class_ 6), (1, u "java/lang/Object"), (0, u "<init>"), (0, u "()V"), (5, .class_ 16), (1, u "java/lang/StringLatin1"), (104, u "$assertionsDisabled"), (0, u "Z"), (98, .class_ 223), (1, u "java/lang/StringLatin1$LinesSpliterator"), (57, u "equals"), (0, u "([B[B)Z"), (107, .class_ 391), (0, u "java/lang/StringLatin1$CharsSpliterator")] 3

def k12m0 : Method := { name := "<init>", desc := "()V", sig := { parameters := [], returnType := none }, accessFlags := 0, code := none }
def k12c1 : Code := { maxStack := 3, maxLocals := 3, code := jdk_43_method_13_code, exceptionTable := #[], attributes := #[] }
def k12m1 : Method := { name := "equals", desc := "([B[B)Z", sig := { parameters := [(.array .byte), (.array .byte)], returnType := some .boolean }, accessFlags := 9, code := some k12c1 }
/-- java/lang/StringLatin1 -/
def k12 : Class := { plain "java/lang/StringLatin1" (some 0) with
  accessFlags := 48
  interfaces := #[]
  cf := some (fileOf pool12 14 #[.nestMembers #[390, 221]] #[{ accessFlags := 0, nameIndex := 7, descriptorIndex := 8, attributes := #[] }, { accessFlags := 9, nameIndex := 281, descriptorIndex := 282, attributes := #[] }] 48 4 #[] #[{ accessFlags := 4120, nameIndex := 121, descriptorIndex := 122, attributes := #[] }])
  fields := #[{ name := "$assertionsDisabled", type := .boolean, accessFlags := 4120, slot := 0, constantValue := 0 }]
  methods := #[k12m0, k12m1]
  instanceTypes := #[]
  staticTypes := #[.boolean]
  resolved := Array.replicate 395 none
  statics := none }

def pool13 : Array CpInfo := pool [(2, .class_ 4), (1, u "java/lang/Object"), (0, u "<init>"), (0, u "()V"), (17, .class_ 26), (1, u "jdk/internal/util/Preconditions"), (28, .class_ 56), (0, u "jdk/internal/util/Preconditions$4"), (57, .class_ 115), (0, u "jdk/internal/util/Preconditions$1"), (7, u "SIOOBE_FORMATTER"), (0, u "Ljava/util/function/BiFunction;"), (0, .class_ 126), (0, u "jdk/internal/util/Preconditions$2"), (3, u "AIOOBE_FORMATTER"), (0, .class_ 132), (0, u "jdk/internal/util/Preconditions$3"), (3, u "IOOBE_FORMATTER")] 57

def k13m0 : Method := { name := "<init>", desc := "()V", sig := { parameters := [], returnType := none }, accessFlags := 1, code := none }
/-- jdk/internal/util/Preconditions -/
def k13 : Class := { plain "jdk/internal/util/Preconditions" (some 0) with
  accessFlags := 33
  interfaces := #[]
  cf := some (fileOf pool13 24 #[.nestMembers #[55, 131, 125, 114]] #[{ accessFlags := 1, nameIndex := 5, descriptorIndex := 6, attributes := #[] }] 33 2 #[] #[{ accessFlags := 25, nameIndex := 123, descriptorIndex := 124, attributes := #[] }, { accessFlags := 25, nameIndex := 130, descriptorIndex := 124, attributes := #[] }, { accessFlags := 25, nameIndex := 136, descriptorIndex := 124, attributes := #[] }])
  fields := #[{ name := "SIOOBE_FORMATTER", type := (.object "java/util/function/BiFunction"), accessFlags := 25, slot := 0, constantValue := 0 }, { name := "AIOOBE_FORMATTER", type := (.object "java/util/function/BiFunction"), accessFlags := 25, slot := 1, constantValue := 0 }, { name := "IOOBE_FORMATTER", type := (.object "java/util/function/BiFunction"), accessFlags := 25, slot := 2, constantValue := 0 }]
  methods := #[k13m0]
  instanceTypes := #[]
  staticTypes := #[(.object "java/util/function/BiFunction"), (.object "java/util/function/BiFunction"), (.object "java/util/function/BiFunction")]
  resolved := Array.replicate 194 none
  statics := some 2 }

def pool14 : Array CpInfo := pool [(9, u "<init>"), (6, .class_ 18), (1, u "java/lang/Object"), (0, u "()V"), (1, .class_ 23), (1, u "jdk/internal/util/ArraysSupport"), (0, u "LOG2_ARRAY_LONG_INDEX_SCALE"), (0, u "I"), (2, u "U"), (0, u "Ljdk/internal/misc/Unsafe;"), (8, u "BIG_ENDIAN"), (0, u "Z"), (8, u "LOG2_BYTE_BIT_SIZE"), (4, u "LOG2_ARRAY_INT_INDEX_SCALE"), (54, u "JLA"), (0, u "Ljdk/internal/access/JavaLangAccess;"), (11, u "LOG2_ARRAY_BOOLEAN_INDEX_SCALE"), (9, u "LOG2_ARRAY_BYTE_INDEX_SCALE"), (5, u "LOG2_ARRAY_CHAR_INDEX_SCALE"), (5, u "LOG2_ARRAY_SHORT_INDEX_SCALE"), (18, u "LOG2_ARRAY_FLOAT_INDEX_SCALE"), (24, u "LOG2_ARRAY_DOUBLE_INDEX_SCALE"), (89, u "T_BOOLEAN"), (2, u "T_CHAR"), (1, u "T_FLOAT"), (1, u "T_DOUBLE"), (1, u "T_BYTE"), (1, u "T_SHORT"), (1, u "T_INT"), (1, u "T_LONG"), (1, u "SOFT_MAX_ARRAY_LENGTH")] 83

def k14m0 : Method := { name := "<init>", desc := "()V", sig := { parameters := [], returnType := none }, accessFlags := 2, code := none }
/-- jdk/internal/util/ArraysSupport -/
def k14 : Class := { plain "jdk/internal/util/ArraysSupport" (some 0) with
  accessFlags := 33
  interfaces := #[]
  cf := some (fileOf pool14 21 #[] #[{ accessFlags := 2, nameIndex := 9, descriptorIndex := 19, attributes := #[] }] 33 16 #[] #[{ accessFlags := 24, nameIndex := 28, descriptorIndex := 29, attributes := #[] }, { accessFlags := 26, nameIndex := 38, descriptorIndex := 39, attributes := #[] }, { accessFlags := 25, nameIndex := 121, descriptorIndex := 25, attributes := #[] }, { accessFlags := 25, nameIndex := 131, descriptorIndex := 25, attributes := #[] }, { accessFlags := 25, nameIndex := 137, descriptorIndex := 25, attributes := #[] }, { accessFlags := 25, nameIndex := 143, descriptorIndex := 25, attributes := #[] }, { accessFlags := 25, nameIndex := 53, descriptorIndex := 25, attributes := #[] }, { accessFlags := 25, nameIndex := 24, descriptorIndex := 25, attributes := #[] }, { accessFlags := 25, nameIndex := 162, descriptorIndex := 25, attributes := #[] }, { accessFlags := 25, nameIndex := 187, descriptorIndex := 25, attributes := #[] }, { accessFlags := 26, nameIndex := 48, descriptorIndex := 25, attributes := #[] }, { accessFlags := 25, nameIndex := 277, descriptorIndex := 25, attributes := #[] }, { accessFlags := 25, nameIndex := 280, descriptorIndex := 25, attributes := #[] }, { accessFlags := 25, nameIndex := 282, descriptorIndex := 25, attributes := #[] }, { accessFlags := 25, nameIndex := 284, descriptorIndex := 25, attributes := #[] }, { accessFlags := 25, nameIndex := 286, descriptorIndex := 25, attributes := #[] }, { accessFlags := 25, nameIndex := 288, descriptorIndex := 25, attributes := #[] }, { accessFlags := 25, nameIndex := 290, descriptorIndex := 25, attributes := #[] }, { accessFlags := 25, nameIndex := 292, descriptorIndex := 25, attributes := #[] }, { accessFlags := 26, nameIndex := 108, descriptorIndex := 109, attributes := #[] }, { accessFlags := 25, nameIndex := 294, descriptorIndex := 25, attributes := #[] }])
  fields := #[{ name := "U", type := (.object "jdk/internal/misc/Unsafe"), accessFlags := 24, slot := 0, constantValue := 0 }, { name := "BIG_ENDIAN", type := .boolean, accessFlags := 26, slot := 1, constantValue := 0 }, { name := "LOG2_ARRAY_BOOLEAN_INDEX_SCALE", type := .int, accessFlags := 25, slot := 2, constantValue := 0 }, { name := "LOG2_ARRAY_BYTE_INDEX_SCALE", type := .int, accessFlags := 25, slot := 3, constantValue := 0 }, { name := "LOG2_ARRAY_CHAR_INDEX_SCALE", type := .int, accessFlags := 25, slot := 4, constantValue := 0 }, { name := "LOG2_ARRAY_SHORT_INDEX_SCALE", type := .int, accessFlags := 25, slot := 5, constantValue := 0 }, { name := "LOG2_ARRAY_INT_INDEX_SCALE", type := .int, accessFlags := 25, slot := 6, constantValue := 0 }, { name := "LOG2_ARRAY_LONG_INDEX_SCALE", type := .int, accessFlags := 25, slot := 7, constantValue := 0 }, { name := "LOG2_ARRAY_FLOAT_INDEX_SCALE", type := .int, accessFlags := 25, slot := 8, constantValue := 0 }, { name := "LOG2_ARRAY_DOUBLE_INDEX_SCALE", type := .int, accessFlags := 25, slot := 9, constantValue := 0 }, { name := "LOG2_BYTE_BIT_SIZE", type := .int, accessFlags := 26, slot := 10, constantValue := 0 }, { name := "T_BOOLEAN", type := .int, accessFlags := 25, slot := 11, constantValue := 0 }, { name := "T_CHAR", type := .int, accessFlags := 25, slot := 12, constantValue := 0 }, { name := "T_FLOAT", type := .int, accessFlags := 25, slot := 13, constantValue := 0 }, { name := "T_DOUBLE", type := .int, accessFlags := 25, slot := 14, constantValue := 0 }, { name := "T_BYTE", type := .int, accessFlags := 25, slot := 15, constantValue := 0 }, { name := "T_SHORT", type := .int, accessFlags := 25, slot := 16, constantValue := 0 }, { name := "T_INT", type := .int, accessFlags := 25, slot := 17, constantValue := 0 }, { name := "T_LONG", type := .int, accessFlags := 25, slot := 18, constantValue := 0 }, { name := "JLA", type := (.object "jdk/internal/access/JavaLangAccess"), accessFlags := 26, slot := 19, constantValue := 0 }, { name := "SOFT_MAX_ARRAY_LENGTH", type := .int, accessFlags := 25, slot := 20, constantValue := 0 }]
  methods := #[k14m0]
  instanceTypes := #[]
  staticTypes := #[(.object "jdk/internal/misc/Unsafe"), .boolean, .int, .int, .int, .int, .int, .int, .int, .int, .int, .int, .int, .int, .int, .int, .int, .int, .int, (.object "jdk/internal/access/JavaLangAccess"), .int]
  resolved := Array.replicate 378 none
  statics := none }

/-- the primitive byte -/
def k15 : Class := { plain "byte" none with kind := .primitive 'B', accessFlags := 0x411 }
/-- [B -/
def k16 : Class := { plain "[B" (some 0) with kind := .array 15 .byte, interfaces := #[11, 2], accessFlags := 1041 }

/-- the primitive char -/
def k17 : Class := { plain "char" none with kind := .primitive 'C', accessFlags := 0x411 }
/-- [C -/
def k18 : Class := { plain "[C" (some 0) with kind := .array 17 .char, interfaces := #[11, 2], accessFlags := 1041 }

/-- the primitive int -/
def k19 : Class := { plain "int" none with kind := .primitive 'I', accessFlags := 0x411 }
/-- [I -/
def k20 : Class := { plain "[I" (some 0) with kind := .array 19 .int, interfaces := #[11, 2], accessFlags := 1041 }

/-- [Lcom/example/tidy_shelf/tidyshelf/catalogue/BookSort; -/
def k21 : Class := { plain "[Lcom/example/tidy_shelf/tidyshelf/catalogue/BookSort;" (some 0) with kind := .array 10 (.object "com/example/tidy_shelf/tidyshelf/catalogue/BookSort"), interfaces := #[11, 2], accessFlags := 1041 }

def heap : Heap := #[{ cls := 7, slots := #[.long 0, .int 1, .null, .int 0, .null, .int 0, .int 0], vm := .statics 7 },
  { cls := 10, slots := #[.ref 4, .ref 5, .ref 6, .ref 3], vm := .statics 10 },
  { cls := 13, slots := #[.null, .null, .null], vm := .statics 13 },
  { cls := 21, slots := #[.ref 4, .ref 5, .ref 6], vm := .none },
  { cls := 10, slots := #[.null, .int 0, .int 0, .ref 7, .null], vm := .none },
  { cls := 10, slots := #[.null, .int 1, .int 0, .ref 8, .null], vm := .none },
  { cls := 10, slots := #[.null, .int 2, .int 0, .ref 9, .null], vm := .none },
  { cls := 7, slots := #[.ref 10, .int 0, .int 0, .int 0], vm := .none },
  { cls := 7, slots := #[.ref 11, .int 0, .int 0, .int 0], vm := .none },
  { cls := 7, slots := #[.ref 12, .int 0, .int 0, .int 0], vm := .none },
  { cls := 16, slots := #[.int 116, .int 105, .int 116, .int 108, .int 101], vm := .none },
  { cls := 16, slots := #[.int 112, .int 117, .int 98, .int 108, .int 105, .int 115, .int 104, .int 101, .int 100, .int 68, .int 97, .int 116, .int 101], vm := .none },
  { cls := 16, slots := #[.int 97, .int 118, .int 97, .int 105, .int 108, .int 97, .int 98, .int 108, .int 101, .int 67, .int 111, .int 112, .int 105, .int 101, .int 115], vm := .none }]
def classes : Array Class := #[k0, k1, k2, k3, k4, k5, k6, k7, k8, k9, k10, k11, k12, k13, k14, k15, k16, k17, k18, k19, k20, k21]
def interned : List (Array UInt16 × Addr) := []
def slotsUsed : Nat := 77
def theMethod : MethodId := ⟨1, 1⟩
def args0 : Array Value := #[.int 5, .int 5, .int 5, .int 5, .int 5, .int 5]
def aboutOver (below : List Frame) : State where
  vm := { classes := classes, interned := interned.toArray }
  heap := heap
  slotsUsed := slotsUsed
  threads := #[{ frames := .invoking theMethod args0 :: below }]
def below0 : List Frame := [.native { method := ⟨0, 0⟩, args := #[] }]
def about1 : State := aboutOver below0
def p0 : Program := .bare "" "" ""
def e0 : Env := launch0.env 0 0 0
theorem w_frames : about1.frames = Frame.invoking theMethod args0 :: below0 := rfl
set_option maxRecDepth 65536 in
theorem w_args : argsFit about1.vm theMethod args0 = true := by decide +kernel
set_option maxRecDepth 65536 in
theorem w_heap : heapFits about1 = true := by decide +kernel
set_option maxRecDepth 65536 in
theorem w_runnable : about1.curStatus? = some .runnable := by decide +kernel
set_option maxRecDepth 65536 in
theorem w_alone : about1.alone = true := by decide +kernel
set_option maxRecDepth 65536 in
theorem w_named : about1.methodNamed? x = some theMethod := by decide +kernel
set_option maxRecDepth 65536 in
theorem w_hears : about1.hears theMethod below0 = true := by decide +kernel
set_option maxRecDepth 65536 in
theorem w_ripe : about1.ripe theMethod args0 below0 = true := by decide +kernel
theorem w_running : about1.status = .running := rfl
set_option maxRecDepth 65536 in
theorem w_room : about1.hasRoom e0.platform room_1 = true :=
  launch0.hasRoom_least _ room_1 (by decide +kernel) (by decide +kernel) (by decide +kernel) (by decide +kernel) (by decide +kernel) (by decide +kernel)
theorem allAtoms_all (ts : List Jvm.Cond) (a : Array Jvm.Value) (st : Jvm.State) : (allAtoms ts).before a st = ts.all (fun c => c.before a st) := by
  induction ts with
  | nil => rfl
  | cons c t ih =>
    show (Jvm.Cond.and c (allAtoms t)).before a st = _
    rw [Jvm.Cond.before_and, ih, List.all_cons]
def words1 : List Jvm.Cond := Jvm.Cond.code x code maxLocals ret :: tables_1
/-- a 'code' word, met by the world's own term for the bytes: nothing is compared byte by byte -/
theorem code_word {y : MethodName} {bytes : ByteArray} {mx : Nat} {rt : Option FieldType} {a : Array Value} {s : State} {m : MethodId} {meth : Method} {c : Code} (h1 : s.methodNamed? y = some m) (h2 : s.vm.method? m = some meth) (h3 : meth.code = some c) (h4 : c.code = bytes)
    (h5 : (c.maxLocals == mx && c.exceptionTable.isEmpty && decide (c.maxStack ≤ mostOperands) && decide (meth.sig.returnType = rt) && !meth.locks && decide (parseMethodDescriptor y.desc = some meth.sig)) = true) : (Jvm.Cond.code y bytes mx rt).before a s = true := by
  simp only [Bool.and_eq_true, beq_iff_eq, Bool.not_eq_true', decide_eq_true_eq] at h5
  obtain ⟨⟨⟨⟨⟨g1, g2⟩, g3⟩, g4⟩, g5⟩, g6⟩ := h5
  simp [Cond.before, Cond.holds, Cond.value, h1, h2, h3, h4, g1, g2, g3, g4, g5, g6]
def isCode : Jvm.Cond → Bool
  | .code _ _ _ _ => true
  | _ => false
theorem all_split {L : List Jvm.Cond} {P : Jvm.Cond → Bool} (h1 : L.all (fun c => isCode c || P c) = true) (h2 : ∀ c ∈ L.filter isCode, P c = true) : L.all P = true := by
  refine List.all_eq_true.mpr fun c hc => ?_
  have h := List.all_eq_true.mp h1 c hc
  rcases Bool.eq_false_or_eq_true (isCode c) with hi | hi
  · exact h2 c (List.mem_filter.mpr ⟨hc, hi⟩)
  · simpa [hi] using h
set_option maxRecDepth 65536 in
theorem w_c0 : (Jvm.Cond.code x code maxLocals ret).before args0 about1 = true := code_word (m := ⟨1, 1⟩) (meth := k1m1) (c := k1c1) (by decide +kernel) rfl rfl rfl (by decide +kernel)
set_option maxRecDepth 65536 in
theorem w_c1 : (Jvm.Cond.code ({ cls := "com/example/tidy_shelf/tidyshelf/catalogue/BookSortNamedPinLaw", name := "base", desc := "(III)[C" } : Jvm.MethodName) method_5_code (4 : Nat) (Option.some (Jvm.ClassFile.FieldType.array Jvm.ClassFile.FieldType.char))).before args0 about1 = true := code_word (m := ⟨1, 4⟩) (meth := k1m4) (c := k1c4) (by decide +kernel) rfl rfl rfl (by decide +kernel)
set_option maxRecDepth 65536 in
theorem w_c2 : (Jvm.Cond.code ({ cls := "java/lang/String", name := "<init>", desc := "([C)V" } : Jvm.MethodName) jdk_42_method_3_code (2 : Nat) (Option.none : Option Jvm.ClassFile.FieldType)).before args0 about1 = true := code_word (m := ⟨7, 1⟩) (meth := k7m1) (c := k7c1) (by decide +kernel) rfl rfl rfl (by decide +kernel)
set_option maxRecDepth 65536 in
theorem w_c3 : (Jvm.Cond.code ({ cls := "java/lang/String", name := "<init>", desc := "([CIILjava/lang/Void;)V" } : Jvm.MethodName) jdk_42_method_149_code (6 : Nat) (Option.none : Option Jvm.ClassFile.FieldType)).before args0 about1 = true := code_word (m := ⟨7, 3⟩) (meth := k7m3) (c := k7c3) (by decide +kernel) rfl rfl rfl (by decide +kernel)
set_option maxRecDepth 65536 in
theorem w_c4 : (Jvm.Cond.code ({ cls := "java/lang/Object", name := "<init>", desc := "()V" } : Jvm.MethodName) object_method_1_code (1 : Nat) (Option.none : Option Jvm.ClassFile.FieldType)).before args0 about1 = true := code_word (m := ⟨0, 0⟩) (meth := k0m0) (c := k0c0) (by decide +kernel) rfl rfl rfl (by decide +kernel)
set_option maxRecDepth 65536 in
theorem w_c5 : (Jvm.Cond.code ({ cls := "java/lang/StringUTF16", name := "compress", desc := "([CII)[B" } : Jvm.MethodName) jdk_52_method_16_code (6 : Nat) (Option.some (Jvm.ClassFile.FieldType.array Jvm.ClassFile.FieldType.byte))).before args0 about1 = true := code_word (m := ⟨8, 2⟩) (meth := k8m2) (c := k8c2) (by decide +kernel) rfl rfl rfl (by decide +kernel)
set_option maxRecDepth 65536 in
theorem w_c6 : (Jvm.Cond.code ({ cls := "java/lang/StringUTF16", name := "compress", desc := "([CI[BII)I" } : Jvm.MethodName) jdk_52_method_21_code (7 : Nat) (Option.some Jvm.ClassFile.FieldType.int)).before args0 about1 = true := code_word (m := ⟨8, 3⟩) (meth := k8m3) (c := k8c3) (by decide +kernel) rfl rfl rfl (by decide +kernel)
set_option maxRecDepth 65536 in
theorem w_c7 : (Jvm.Cond.code ({ cls := "java/lang/StringUTF16", name := "coderFromArrayLen", desc := "([BI)B" } : Jvm.MethodName) jdk_52_method_15_code (2 : Nat) (Option.some Jvm.ClassFile.FieldType.byte)).before args0 about1 = true := code_word (m := ⟨8, 1⟩) (meth := k8m1) (c := k8c1) (by decide +kernel) rfl rfl rfl (by decide +kernel)
set_option maxRecDepth 65536 in
theorem w_c8 : (Jvm.Cond.code ({ cls := "com/example/tidy_shelf/tidyshelf/catalogue/BookSort", name := "named", desc := "(Ljava/lang/String;)Lcom/example/tidy_shelf/tidyshelf/catalogue/BookSort;" } : Jvm.MethodName) prog_4_method_4_code (6 : Nat) (Option.some (Jvm.ClassFile.FieldType.object "com/example/tidy_shelf/tidyshelf/catalogue/BookSort"))).before args0 about1 = true := code_word (m := ⟨10, 1⟩) (meth := k10m1) (c := k10c1) (by decide +kernel) rfl rfl rfl (by decide +kernel)
set_option maxRecDepth 65536 in
theorem w_c9 : (Jvm.Cond.code ({ cls := "com/example/tidy_shelf/tidyshelf/catalogue/BookSort", name := "values", desc := "()[Lcom/example/tidy_shelf/tidyshelf/catalogue/BookSort;" } : Jvm.MethodName) prog_4_method_1_code (0 : Nat) (Option.some (Jvm.ClassFile.FieldType.array (Jvm.ClassFile.FieldType.object "com/example/tidy_shelf/tidyshelf/catalogue/BookSort")))).before args0 about1 = true := code_word (m := ⟨10, 0⟩) (meth := k10m0) (c := k10c0) (by decide +kernel) rfl rfl rfl (by decide +kernel)
set_option maxRecDepth 65536 in
theorem w_c10 : (Jvm.Cond.code ({ cls := "java/lang/String", name := "equals", desc := "(Ljava/lang/Object;)Z" } : Jvm.MethodName) jdk_42_method_66_code (3 : Nat) (Option.some Jvm.ClassFile.FieldType.boolean)).before args0 about1 = true := code_word (m := ⟨7, 2⟩) (meth := k7m2) (c := k7c2) (by decide +kernel) rfl rfl rfl (by decide +kernel)
set_option maxRecDepth 65536 in
theorem w_c11 : (Jvm.Cond.code ({ cls := "java/lang/StringLatin1", name := "equals", desc := "([B[B)Z" } : Jvm.MethodName) jdk_43_method_13_code (3 : Nat) (Option.some Jvm.ClassFile.FieldType.boolean)).before args0 about1 = true := code_word (m := ⟨12, 1⟩) (meth := k12m1) (c := k12c1) (by decide +kernel) rfl rfl rfl (by decide +kernel)
set_option maxRecDepth 65536 in
theorem w_c12 : (Jvm.Cond.code ({ cls := "com/example/tidy_shelf/tidyshelf/catalogue/BookSortNamedPinLaw", name := "expected", desc := "(Ljava/lang/String;)Lcom/example/tidy_shelf/tidyshelf/catalogue/BookSort;" } : Jvm.MethodName) method_3_code (1 : Nat) (Option.some (Jvm.ClassFile.FieldType.object "com/example/tidy_shelf/tidyshelf/catalogue/BookSort"))).before args0 about1 = true := code_word (m := ⟨1, 2⟩) (meth := k1m2) (c := k1c2) (by decide +kernel) rfl rfl rfl (by decide +kernel)
set_option maxRecDepth 65536 in
theorem w_c13 : (Jvm.Cond.code ({ cls := "com/example/tidy_shelf/tidyshelf/catalogue/BookSortNamedPinLaw", name := "drawn", desc := "(IIII)[C" } : Jvm.MethodName) method_4_code (7 : Nat) (Option.some (Jvm.ClassFile.FieldType.array Jvm.ClassFile.FieldType.char))).before args0 about1 = true := code_word (m := ⟨1, 3⟩) (meth := k1m3) (c := k1c3) (by decide +kernel) rfl rfl rfl (by decide +kernel)
def codes1 : List Jvm.Cond := [Jvm.Cond.code x code maxLocals ret, Jvm.Cond.code ({ cls := "com/example/tidy_shelf/tidyshelf/catalogue/BookSortNamedPinLaw", name := "base", desc := "(III)[C" } : Jvm.MethodName) method_5_code (4 : Nat) (Option.some (Jvm.ClassFile.FieldType.array Jvm.ClassFile.FieldType.char)), Jvm.Cond.code ({ cls := "java/lang/String", name := "<init>", desc := "([C)V" } : Jvm.MethodName) jdk_42_method_3_code (2 : Nat) (Option.none : Option Jvm.ClassFile.FieldType), Jvm.Cond.code ({ cls := "java/lang/String", name := "<init>", desc := "([CIILjava/lang/Void;)V" } : Jvm.MethodName) jdk_42_method_149_code (6 : Nat) (Option.none : Option Jvm.ClassFile.FieldType), Jvm.Cond.code ({ cls := "java/lang/Object", name := "<init>", desc := "()V" } : Jvm.MethodName) object_method_1_code (1 : Nat) (Option.none : Option Jvm.ClassFile.FieldType), Jvm.Cond.code ({ cls := "java/lang/StringUTF16", name := "compress", desc := "([CII)[B" } : Jvm.MethodName) jdk_52_method_16_code (6 : Nat) (Option.some (Jvm.ClassFile.FieldType.array Jvm.ClassFile.FieldType.byte)), Jvm.Cond.code ({ cls := "java/lang/StringUTF16", name := "compress", desc := "([CI[BII)I" } : Jvm.MethodName) jdk_52_method_21_code (7 : Nat) (Option.some Jvm.ClassFile.FieldType.int), Jvm.Cond.code ({ cls := "java/lang/StringUTF16", name := "coderFromArrayLen", desc := "([BI)B" } : Jvm.MethodName) jdk_52_method_15_code (2 : Nat) (Option.some Jvm.ClassFile.FieldType.byte), Jvm.Cond.code ({ cls := "com/example/tidy_shelf/tidyshelf/catalogue/BookSort", name := "named", desc := "(Ljava/lang/String;)Lcom/example/tidy_shelf/tidyshelf/catalogue/BookSort;" } : Jvm.MethodName) prog_4_method_4_code (6 : Nat) (Option.some (Jvm.ClassFile.FieldType.object "com/example/tidy_shelf/tidyshelf/catalogue/BookSort")), Jvm.Cond.code ({ cls := "com/example/tidy_shelf/tidyshelf/catalogue/BookSort", name := "values", desc := "()[Lcom/example/tidy_shelf/tidyshelf/catalogue/BookSort;" } : Jvm.MethodName) prog_4_method_1_code (0 : Nat) (Option.some (Jvm.ClassFile.FieldType.array (Jvm.ClassFile.FieldType.object "com/example/tidy_shelf/tidyshelf/catalogue/BookSort"))), Jvm.Cond.code ({ cls := "java/lang/String", name := "equals", desc := "(Ljava/lang/Object;)Z" } : Jvm.MethodName) jdk_42_method_66_code (3 : Nat) (Option.some Jvm.ClassFile.FieldType.boolean), Jvm.Cond.code ({ cls := "java/lang/StringLatin1", name := "equals", desc := "([B[B)Z" } : Jvm.MethodName) jdk_43_method_13_code (3 : Nat) (Option.some Jvm.ClassFile.FieldType.boolean), Jvm.Cond.code ({ cls := "com/example/tidy_shelf/tidyshelf/catalogue/BookSortNamedPinLaw", name := "expected", desc := "(Ljava/lang/String;)Lcom/example/tidy_shelf/tidyshelf/catalogue/BookSort;" } : Jvm.MethodName) method_3_code (1 : Nat) (Option.some (Jvm.ClassFile.FieldType.object "com/example/tidy_shelf/tidyshelf/catalogue/BookSort")), Jvm.Cond.code ({ cls := "com/example/tidy_shelf/tidyshelf/catalogue/BookSortNamedPinLaw", name := "drawn", desc := "(IIII)[C" } : Jvm.MethodName) method_4_code (7 : Nat) (Option.some (Jvm.ClassFile.FieldType.array Jvm.ClassFile.FieldType.char))]
set_option maxRecDepth 65536 in
theorem codes_eq : words1.filter isCode = codes1 := rfl
theorem w_codes : ∀ c ∈ words1.filter isCode, c.before args0 about1 = true := by
  rw [codes_eq]
  intro c hc
  simp only [codes1, List.mem_cons, List.not_mem_nil, or_false] at hc
  rcases hc with rfl | rfl | rfl | rfl | rfl | rfl | rfl | rfl | rfl | rfl | rfl | rfl | rfl | rfl
  · exact w_c0
  · exact w_c1
  · exact w_c2
  · exact w_c3
  · exact w_c4
  · exact w_c5
  · exact w_c6
  · exact w_c7
  · exact w_c8
  · exact w_c9
  · exact w_c10
  · exact w_c11
  · exact w_c12
  · exact w_c13
set_option maxRecDepth 65536 in
theorem w_t1 : (words1.take 24).all (fun c => isCode c || c.before args0 about1) = true := by decide +kernel
set_option maxRecDepth 65536 in
theorem w_t2 : ((words1.drop 24).take 24).all (fun c => isCode c || c.before args0 about1) = true := by decide +kernel
set_option maxRecDepth 65536 in
theorem w_t3 : (((words1.drop 24).drop 24).take 24).all (fun c => isCode c || c.before args0 about1) = true := by decide +kernel
set_option maxRecDepth 65536 in
theorem w_t4 : (((words1.drop 24).drop 24).drop 24).all (fun c => isCode c || c.before args0 about1) = true := by decide +kernel
theorem w_tables : (allAtoms (Jvm.Cond.code x code maxLocals ret :: tables_1)).before args0 about1 = true := by
  rw [allAtoms_all]
  show words1.all (fun c => c.before args0 about1) = true
  refine all_split ?_ w_codes
  rw [← List.take_append_drop 24 words1, List.all_append, w_t1, ← List.take_append_drop 24 (words1.drop 24), List.all_append, w_t2, ← List.take_append_drop 24 ((words1.drop 24).drop 24), List.all_append, w_t3, w_t4]
  rfl
set_option maxRecDepth 65536 in
theorem w_rest : rest_1_c.before args0 about1 = true := by decide +kernel
set_option maxRecDepth 65536 in
theorem w_case : (Jvm.Cond.and given_1 narrow_1).before args0 about1 = true := by decide +kernel
set_option maxRecDepth 65536 in
theorem w_consts : constsHeld consts_1 about1 := Jvm.Lit.constsHeldB_iff.mp (by decide +kernel)
theorem w_applies : (headSpec (Jvm.Cond.code x code maxLocals ret :: tables_1) room_1).applies x e0.platform about1 = true :=
  (Spec.applies_iff w_frames).mpr ⟨w_running, w_runnable, w_alone, w_named, w_hears, w_ripe, w_room, w_tables⟩
theorem atStart : AtStart classFile x code maxLocals ret World_1 tables_1 room_1 Calls_1 rest_1 Pre_1 launch0 p0 e0 about1 theMethod args0 below0 :=
  ⟨lists_1, trivial, launch0.admits_env _ _ _, launch0.least_env, fairChoices_fair.cas, fairChoices_fair.clock, w_frames, w_args, w_heap, w_applies, ⟨w_consts, trivial⟩, w_rest, w_case⟩
end start1
theorem witness_1 : WitnessClaimed_1 := ⟨start1.p0, start1.e0, start1.about1, start1.theMethod, start1.args0, start1.below0, start1.atStart⟩
end Jvm.Pilot.@@N@@
