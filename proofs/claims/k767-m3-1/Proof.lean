import JvmDerived
import JvmDerived.Pilot.@@N@@Statement
import JvmDerived.Pilot.@@N@@Code
set_option linter.unusedVariables false
set_option linter.unusedSimpArgs false
/- laws to paste: Road.lenW, pair_says, narrow_ch, chr8_lo8, shr0, shr1, Road.low_at, Road.wide_lo, Road.wide_hi (cut by pick.py; bodies as the Statement names them) -/
namespace Jvm.Pilot.@@N@@
namespace StrChars
open Jvm Sem ClassFile Op Lib Jvm.Stand Jvm.Free.XT Jvm.Free.ALB Jvm.Free.JM Jvm.Free
open Jvm.Lib.Cold (StaticIs)
/-- the byte that i2b leaves of a char -/
def lo8 (x : Int32) : Int32 := x.toInt8.toInt32
def U16 : String := "java/lang/StringUTF16"
namespace Cmp5
def yN : MethodName := ⟨"java/lang/StringUTF16", "compress", "([CI[BII)I"⟩
abbrev yB : ByteArray := jdk_52_method_21_code
end Cmp5
namespace Cmp3
def yN : MethodName := ⟨"java/lang/StringUTF16", "compress", "([CII)[B"⟩
abbrev yB : ByteArray := jdk_52_method_16_code
end Cmp3
namespace CodL
def yN : MethodName := ⟨"java/lang/StringUTF16", "coderFromArrayLen", "([BI)B"⟩
abbrev yB : ByteArray := jdk_52_method_15_code
end CodL
namespace New4
def yN : MethodName := ⟨"java/lang/String", "<init>", "([CIILjava/lang/Void;)V"⟩
abbrev yB : ByteArray := jdk_42_method_149_code
end New4
namespace New1
def yN : MethodName := ⟨"java/lang/String", "<init>", "([C)V"⟩
abbrev yB : ByteArray := jdk_42_method_3_code
end New1
/-- the byte, read back as charAt reads it, is the char -/
theorem lo8_mask {x : Int32} (h0 : ¬ x < 0) (h1 : ¬ 255 < x) : lo8 x &&& 255 = x := by
  have t : ∀ k : Fin 256, lo8 (Int32.ofNat k.val) &&& 255 = Int32.ofNat k.val := by decide +kernel
  rw [Int32.lt_iff_toInt_lt] at h0 h1
  have e0 : (0 : Int32).toInt = 0 := rfl
  have e1 : (255 : Int32).toInt = 255 := rfl
  obtain ⟨k, hk⟩ : ∃ k : Nat, x.toInt = k := ⟨x.toInt.toNat, by omega⟩
  have hx : x = Int32.ofNat k := Int32.toInt_inj.mp (by rw [hk, Int32.toInt_ofNat_small (by omega)])
  rw [hx]
  exact t ⟨k, by omega⟩
end StrChars
namespace StrChars.Road
open Jvm Sem ClassFile Op Lib Jvm.Stand Jvm.Free Jvm.Free.XT
open Jvm.Lib.Cold (StaticIs)
abbrev ST : String := "java/lang/String"
/-- every table word that New1's law asks, flat -/
abbrev words : List Jvm.Cond := [.code New1.yN New1.yB 2 none, .initialized ST, .methodLink ST 27 New4.yN, .instanceMethod New4.yN,
  .code New4.yN New4.yB 6 none, .fieldLink ST 38 ST "COMPACT_STRINGS" "Z", .laysFinal ST ST "value" "[B", .fieldLink ST 9 ST "value" "[B", .laysFinal ST ST "coder" "B", .fieldLink ST 15 ST "coder" "B",
  .methodLink ST 1 Lib.objectInit, .instanceMethod Lib.objectInit, .code Lib.objectInit ⟨#[0xb1]⟩ 1 none, .methodLink ST 177 Cmp3.yN, .static Cmp3.yN, .methodLink ST 47 CodL.yN, .static CodL.yN,
  .code Cmp3.yN Cmp3.yB 6 (some (.array .byte)), .initialized U16, .arrayClass .byte, .methodLink U16 115 Cmp5.yN, .static Cmp5.yN, .code Cmp5.yN Cmp5.yB 7 (some .int), .code CodL.yN CodL.yB 2 (some .byte)]
end StrChars.Road
namespace StrChars
open Jvm Sem ClassFile Op Lib Jvm.Stand Jvm.Free.XT Jvm.Free.ALB Jvm.Free.JM Jvm.Free
open Jvm.Lib.Cold (StaticIs)
def hi8 (x : Int32) : Int32 := lo8 (x >>> ((8 : Int32) &&& 31))
/-- what StringUTF16.getChar makes of two bytes -/
def pairCh (u v : Int32) : Int32 := (((u &&& 255) <<< ((0 : Int32) &&& 31)) ||| ((v &&& 255) <<< ((8 : Int32) &&& 31))).toUInt32.toUInt16.toUInt32.toInt32
theorem shr0 (c : Int32) : c >>> ((0 : Int32) &&& 31) = c := by
  have e : ((0 : Int32) &&& 31) = 0 := by decide
  rw [e]
  apply Int32.toBitVec_inj.mp
  rw [Int32.toBitVec_shiftRight]
  have e1 : ((0 : Int32).toBitVec.smod 32) = 0#32 := by decide
  rw [e1, BitVec.sshiftRight_eq']
  exact BitVec.sshiftRight_zero
theorem lo8_and (x : Int32) : (lo8 x &&& 255).toBitVec.toNat = x.toBitVec.toNat % 256 := by
  have h : (lo8 x).toBitVec = (x.toBitVec.signExtend 8).signExtend 32 := by rw [lo8, Int8.toBitVec_toInt32, Int32.toBitVec_toInt8]
  rw [Int32.toBitVec_and, BitVec.toNat_and, h]
  have e : ((x.toBitVec.signExtend 8).signExtend 32).toNat % 256 = x.toBitVec.toNat % 256 := by
    rw [BitVec.toNat_signExtend]
    have hlt := x.toBitVec.isLt
    simp only [BitVec.toNat_setWidth, BitVec.toNat_signExtend]
    split <;> split <;> omega
  rw [← e]
  exact Nat.and_two_pow_sub_one_eq_mod _ 8
theorem pair_says {c : Int32} (h0 : ¬ c < 0) (h1 : ¬ 65535 < c) : pairCh (lo8 c) (hi8 c) = c := by
  rw [Int32.lt_iff_toInt_lt] at h0 h1
  have e0 : (0 : Int32).toInt = 0 := rfl
  have e1 : (65535 : Int32).toInt = 65535 := rfl
  have hc : c.toInt = c.toBitVec.toNat := by
    have := c.toBitVec.isLt
    have e : c.toInt = c.toBitVec.toInt := rfl
    rw [e] at h0 h1
    rw [e]
    rw [BitVec.toInt_eq_toNat_cond] at h0 h1 ⊢
    split at h0 <;> split <;> omega
  have hn : c.toBitVec.toNat < 65536 := by omega
  have a1 := lo8_and c
  have a2 : (hi8 c &&& 255).toBitVec.toNat = c.toBitVec.toNat / 256 := by
    rw [hi8, lo8_and]
    have e : ((8 : Int32) &&& 31) = 8 := by decide
    rw [e, Int32.toBitVec_shiftRight]
    have e2 : ((8 : Int32).toBitVec.smod 32) = 8#32 := by decide
    rw [e2, BitVec.sshiftRight_eq', BitVec.toNat_sshiftRight_of_msb_false (by rw [BitVec.msb_eq_false_iff_two_mul_lt]; omega)]
    show c.toBitVec.toNat >>> 8 % 256 = _
    rw [Nat.shiftRight_eq_div_pow]
    omega
  unfold pairCh
  apply Int32.toBitVec_inj.mp
  apply BitVec.eq_of_toNat_eq
  have f0 : ((0 : Int32) &&& 31) = 0 := by decide
  have f8 : ((8 : Int32) &&& 31) = 8 := by decide
  rw [f0, f8]
  have g : (((lo8 c &&& 255) <<< (0 : Int32)) ||| ((hi8 c &&& 255) <<< (8 : Int32))).toBitVec.toNat = c.toBitVec.toNat := by
    rw [Int32.toBitVec_or, Int32.toBitVec_shiftLeft, Int32.toBitVec_shiftLeft]
    have s0 : ((0 : Int32).toBitVec.smod 32) = 0#32 := by decide
    have s8 : ((8 : Int32).toBitVec.smod 32) = 8#32 := by decide
    rw [s0, s8, BitVec.toNat_or]
    simp only [BitVec.shiftLeft_eq', BitVec.toNat_shiftLeft, a1, a2]
    show (c.toBitVec.toNat % 256) <<< 0 % 2 ^ 32 ||| (c.toBitVec.toNat / 256) <<< 8 % 2 ^ 32 = _
    rw [Nat.shiftLeft_zero, Nat.mod_eq_of_lt (show c.toBitVec.toNat % 256 < 2 ^ 32 by omega), Nat.mod_eq_of_lt (show (c.toBitVec.toNat / 256) <<< 8 < 2 ^ 32 by rw [Nat.shiftLeft_eq]; omega), Nat.or_comm, ← Nat.shiftLeft_add_eq_or_of_lt (by omega), Nat.shiftLeft_eq]
    omega
  show BitVec.toNat (((((lo8 c &&& 255) <<< (0 : Int32)) ||| ((hi8 c &&& 255) <<< (8 : Int32))).toBitVec.setWidth 16).setWidth 32) = _
  rw [BitVec.toNat_setWidth, BitVec.toNat_setWidth, g]
  omega
end StrChars
namespace StrChars
open Jvm Sem ClassFile Op Lib Jvm.Stand Jvm.Free.XT Jvm.Free.ALB Jvm.Free.JM Jvm.Free
open Jvm.Lib.Cold (StaticIs)
theorem shr1 {n : Nat} (h : 2 * n < 2 ^ 31) : Int32.ofNat (2 * n) >>> ((1 : Int32) &&& 31) = Int32.ofNat n := by
  have e : ((1 : Int32) &&& 31) = 1 := by decide
  rw [e]
  apply Int32.toBitVec_inj.mp
  rw [Int32.toBitVec_shiftRight]
  have e1 : ((1 : Int32).toBitVec.smod 32) = 1#32 := by decide
  have hm : (BitVec.ofNat 32 (2 * n)).toNat = 2 * n := by rw [BitVec.toNat_ofNat, Nat.mod_eq_of_lt (by omega)]
  rw [e1, BitVec.sshiftRight_eq']
  apply BitVec.eq_of_toNat_eq
  show ((BitVec.ofNat 32 (2 * n)).sshiftRight 1).toNat = (BitVec.ofNat 32 n).toNat
  rw [BitVec.toNat_sshiftRight_of_msb_false (by rw [BitVec.msb_eq_false_iff_two_mul_lt, hm]; omega), hm, BitVec.toNat_ofNat, Nat.shiftRight_eq_div_pow]
  omega
/-- charAt's cast of a byte read back -/
def chr8 (u : Int32) : Int32 := (u &&& 255).toUInt32.toUInt16.toUInt32.toInt32
theorem chr8_lo8 {c : Int32} (h0 : ¬ c < 0) (h1 : ¬ 255 < c) : chr8 (lo8 c) = c := by
  have t : ∀ k : Fin 256, (Int32.ofNat k.val).toUInt32.toUInt16.toUInt32.toInt32 = Int32.ofNat k.val := by decide +kernel
  unfold chr8
  rw [lo8_mask h0 h1]
  rw [Int32.lt_iff_toInt_lt] at h0 h1
  have e0 : (0 : Int32).toInt = 0 := rfl
  have e1 : (255 : Int32).toInt = 255 := rfl
  obtain ⟨k, hk⟩ : ∃ k : Nat, c.toInt = k := ⟨c.toInt.toNat, by omega⟩
  have hx : c = Int32.ofNat k := Int32.toInt_inj.mp (by rw [hk, Int32.toInt_ofNat_small (by omega)])
  rw [hx]
  exact t ⟨k, by omega⟩
theorem narrow_ch {c : Int32} (h0 : ¬ c < 0) (h1 : ¬ 65535 < c) : narrow .char (.int c) = .int c := by
  have q : narrow .char (.int (pairCh (lo8 c) (hi8 c))) = .int (pairCh (lo8 c) (hi8 c)) := narrow_c _
  rwa [pair_says h0 h1] at q
/-- the array's cell V codes the n chars f 0 .. f (n - 1) by the coder cd, as the JDK does: coder 1 just where some char is above 255 -/
def Cod (cd : Int32) (n : Nat) (f : Nat → Int32) (V : Cell) : Prop := (cd = 0 ∧ V.slots.size = n ∧ ∀ j, j < n → V.slots[j]? = some (.int (lo8 (f j))) ∧ ¬ 255 < f j) ∨ (cd = 1 ∧ V.slots.size = 2 * n ∧ (∀ j, j < n → V.slots[2 * j]? = some (.int (lo8 (f j))) ∧ V.slots[2 * j + 1]? = some (.int (hi8 (f j)))) ∧ ∃ j, j < n ∧ 255 < f j)
theorem Cod.cd {cd : Int32} {n : Nat} {f : Nat → Int32} {V : Cell} (h : Cod cd n f V) : cd = 0 ∨ cd = 1 := h.imp (fun q => q.1) fun q => q.1
theorem Cod.len {cd : Int32} {n : Nat} {f : Nat → Int32} {V : Cell} (h : Cod cd n f V) (hs : V.slots.size < 2 ^ 31) : Int32.ofNat V.slots.size >>> (cd &&& 31) = Int32.ofNat n := by
  rcases h with ⟨rfl, h, -⟩ | ⟨rfl, h, -⟩
  · rw [shr0, h]
  · rw [h, shr1 (by omega)]
/-- **x is a String of the n chars f 0 .. f (n - 1)**, Latin-1 or UTF-16; its array at t has the cell V -/
def Txt (x t : Addr) (V : Cell) (cd : Int32) (n : Nat) (f : Nat → Int32) (U : State) : Prop := Exact "java/lang/String" x U ∧ Has x "java/lang/String" "value" "[B" (.ref t) U ∧ Has x "java/lang/String" "coder" "B" (.int cd) U ∧ XT.Arr .byte t V U ∧ Cod cd n f V ∧ ∀ j, j < n → ¬ f j < 0 ∧ ¬ 65535 < f j
theorem Txt.mv {x t : Addr} {V : Cell} {cd : Int32} {n : Nat} {f : Nat → Int32} {U U' : State} (h : Txt x t V cd n f U) (hal : U.vm.Alike U'.vm) (hh : U'.heap = U.heap) : Txt x t V cd n f U' := ⟨h.1.mv hal hh, h.2.1.mv hal hh, h.2.2.1.mv hal hh, h.2.2.2.1.mv hal hh, h.2.2.2.2⟩
namespace Cdr
def yN : MethodName := ⟨"java/lang/String", "coder", "()B"⟩
abbrev yB : ByteArray := jdk_42_method_152_code
theorem d0 : decode yB 0 = .ok (.getstatic 38, 3) := by decide +kernel
theorem d3 : decode yB 3 = .ok (.ifCond (.eq) 10, 3) := by decide +kernel
theorem d6 : decode yB 6 = .ok (.aload_n 0, 1) := by decide +kernel
theorem d7 : decode yB 7 = .ok (.getfield 15, 3) := by decide +kernel
theorem d10 : decode yB 10 = .ok (.goto 4, 3) := by decide +kernel
theorem d14 : decode yB 14 = .ok (.ireturn, 1) := by decide +kernel
def site : List Cond := [.fieldLink "java/lang/String" 38 "java/lang/String" "COMPACT_STRINGS" "Z", .fieldLink "java/lang/String" 15 "java/lang/String" "coder" "B"]
def tab : Cond := tabOf yN yB 1 (some .byte) site
def P (x : Addr) (cd z : Int32) (args : Array Value) (s : State) : Prop := args = #[.ref x] ∧ Has x "java/lang/String" "coder" "B" (.int cd) s ∧ (cd = 0 ∨ cd = 1) ∧ StaticIs s "java/lang/String" "COMPACT_STRINGS" "Z" (.int z) ∧ ¬ z = 0
def E (cd : Int32) (r : Option Value) (s u : State) : Prop := XT.PureE (some (.int cd)) r s u
theorem law (l : Launch) (x : Addr) (cd z : Int32) : Law l yN 1 0 0 0 yB 1 (some .byte) site (P x cd z) (E cd) [] 0 0 := by
  refine Law.of_walk (plainFor_of_name (by decide +kernel)) (by decide +kernel) (by decide +kernel) (by decide) (fun _ _ h => by rw [h.1]; rfl) (fun _ U U' hal hh h => ⟨h.1, h.2.1.mv hal hh, h.2.2.1, h.2.2.2.1.there hal hh, h.2.2.2.2⟩) (fun r U U' V V' h1 hal h2 h => XT.PureE.mv r U U' V V' h1 hal h2 h) ?_
  intro p e s m args below meth c s₁ X0 hexec hbytes hml hret hlk hnm hown hh0 W hP
  obtain ⟨rfl, hx, hc, s1, hz⟩ := hP
  have c1 : Steps p.tables e below (s₁.setTop (entryFrame m #[.ref x] 1)) (s₁.setTop (mkF m 0 #[.val (.ref x)] [])) := entry rfl
  obtain ⟨T2, X2, q2, st2⟩ := X0.sget hexec hown (wk W (.fieldLink "java/lang/String" 38 "java/lang/String" "COMPACT_STRINGS" "Z")) s1 (fun _ _ h => by rw [hh0]; exact h) (g := (mkF m 0 #[.val (.ref x)] [])) rfl (hb hbytes d0)
  have hh2 := q2.trans hh0
  have c3 : Steps p.tables e below (s₁.setTop (entryFrame m #[.ref x] 1)) (T2.setTop (mkF m 7 #[.val (.ref x)] [.ref x])) := (c1.trans (st2 _ (Steps.refl _))).trans (by
    refine XS.ifNo X2.here hexec rfl (hb hbytes d3) rfl (i0_eq_f hz) ?_
    refine XS.aloadN X2.here hexec rfl (hb hbytes d6) rfl rfl ?_
    exact Steps.refl _)
  obtain ⟨T4, X4, q4, st4⟩ := X2.hget hexec hown (wk W (.fieldLink "java/lang/String" 15 "java/lang/String" "coder" "B")) (hx.mv X2.warmed.alike hh2) (g := (mkF m 7 #[.val (.ref x)] [.ref x])) rfl (rest := []) rfl (hb hbytes d7)
  have c5 : Steps p.tables e below (s₁.setTop (entryFrame m #[.ref x] 1)) (T4.setTop (mkF m 14 #[.val (.ref x)] [.int cd])) := (c3.trans (st4 _ (Steps.refl _))).trans (by
    refine XS.goto X4.here hexec rfl (pc0 := 10) rfl (hb hbytes d10) (by decide) rfl ?_
    exact Steps.refl _)
  exact ⟨T4, some (.int cd), _, _, _, X4, rfl, rfl, rfl, (fun h => by cases h), ⟨rfl, q4.trans hh2⟩, fun fs hl => c5.trans (X4.ireturnOut hexec hret (by rcases hc with rfl | rfl <;> rfl) (Or.inr (Or.inr (Or.inl rfl))) (hb hbytes d14) hl)⟩
end Cdr
namespace Len
def yN : MethodName := ⟨"java/lang/String", "length", "()I"⟩
abbrev yB : ByteArray := jdk_42_method_54_code
theorem d0 : decode yB 0 = .ok (.aload_n 0, 1) := by decide +kernel
theorem d1 : decode yB 1 = .ok (.getfield 9, 3) := by decide +kernel
theorem d4 : decode yB 4 = .ok (.arraylength, 1) := by decide +kernel
theorem d5 : decode yB 5 = .ok (.aload_n 0, 1) := by decide +kernel
theorem d6 : decode yB 6 = .ok (.invokevirtual 335, 3) := by decide +kernel
theorem d9 : decode yB 9 = .ok (.ishr, 1) := by decide +kernel
theorem d10 : decode yB 10 = .ok (.ireturn, 1) := by decide +kernel
def site : List Cond := [.fieldLink "java/lang/String" 9 "java/lang/String" "value" "[B", Cdr.tab] ++ virtW "java/lang/String" 335 "java/lang/String" Cdr.yN Cdr.yN
def tab : Cond := tabOf yN yB 1 (some .int) site
def P (x t : Addr) (V : Cell) (cd : Int32) (n : Nat) (f : Nat → Int32) (z : Int32) (args : Array Value) (s : State) : Prop := args = #[.ref x] ∧ Txt x t V cd n f s ∧ StaticIs s "java/lang/String" "COMPACT_STRINGS" "Z" (.int z) ∧ ¬ z = 0
def E (n : Nat) (r : Option Value) (s u : State) : Prop := XT.PureE (some (.int (Int32.ofNat n))) r s u
/-- length() of a String of n chars, in either coding -/
theorem law (l : Launch) (x t : Addr) (V : Cell) (cd : Int32) (n : Nat) (f : Nat → Int32) (z : Int32) : Law l yN 1 0 1 13 yB 1 (some .int) site (P x t V cd n f z) (E n) [] 0 0 := by
  refine Law.of_walk (plainFor_of_name (by decide +kernel)) (by decide +kernel) (by decide +kernel) (by decide) (fun _ _ h => by rw [h.1]; rfl) (fun _ U U' hal hh h => ⟨h.1, h.2.1.mv hal hh, h.2.2.1.there hal hh, h.2.2.2⟩) (fun r U U' V V' h1 hal h2 h => XT.PureE.mv r U U' V V' h1 hal h2 h) ?_
  intro p e s m args below meth c s₁ X0 hexec hbytes hml hret hlk hnm hown hh0 W hP
  obtain ⟨rfl, hx, s1, hz⟩ := hP
  have v31 := hx.2.2.2.1.2.2.2
  have c1 : Steps p.tables e below (s₁.setTop (entryFrame m #[.ref x] 1)) (s₁.setTop (mkF m 1 #[.val (.ref x)] [.ref x])) := Steps.trans (entry rfl) (by
    show Steps p.tables e below (s₁.setTop (mkF m 0 #[.val (.ref x)] [])) _
    refine XS.aloadN X0.here hexec rfl (hb hbytes d0) rfl rfl ?_
    exact Steps.refl _)
  obtain ⟨T2, X2, q2, st2⟩ := X0.hget hexec hown (wk W (.fieldLink "java/lang/String" 9 "java/lang/String" "value" "[B")) (hx.mv X0.warmed.alike hh0).2.1 (g := (mkF m 1 #[.val (.ref x)] [.ref x])) rfl (rest := []) rfl (hb hbytes d1)
  have hh2 := q2.trans hh0
  have hx2 := hx.mv X2.warmed.alike hh2
  have c3 : Steps p.tables e below (s₁.setTop (entryFrame m #[.ref x] 1)) (T2.setTop (mkF m 6 #[.val (.ref x)] [.ref x, .int (Int32.ofNat V.slots.size)])) := (c1.trans (st2 _ (Steps.refl _))).trans (by
    refine X2.alen hexec hx2.2.2.2.1 rfl rfl (hb hbytes d4) ?_
    refine XS.aloadN X2.here hexec rfl (hb hbytes d5) rfl rfl ?_
    exact Steps.refl _)
  obtain ⟨v4, T4, X4, E4, g4⟩ := X2.callV hexec (Cdr.law l x cd z) hown (wks W (virtW "java/lang/String" 335 "java/lang/String" Cdr.yN Cdr.yN)) rfl (by decide) (wk W Cdr.tab) (W := 1) (Nat.le_of_ble_eq_true rfl) (Nat.le_of_ble_eq_true rfl) (Nat.le_refl _) (Nat.le_refl _) (hx2.1.fc X2.warmed.alike) hx2.1.is (g := (mkF m 6 #[.val (.ref x)] [.ref x, .int (Int32.ofNat V.slots.size)])) rfl (by rw [hml]; rfl) c3 (argsL := []) (rest := [.int (Int32.ofNat V.slots.size)]) rfl rfl (by show 2 * 0 + (1 + 0) ≤ _; decide) (hb hbytes d6) (⟨rfl, hx2.2.2.1, hx.2.2.2.2.1.cd, s1.there X2.warmed.alike hh2, hz⟩)
  obtain ⟨rfl, q4⟩ := E4
  have c5 : Steps p.tables e below (s₁.setTop (entryFrame m #[.ref x] 1)) (T4.setTop (mkF m 10 #[.val (.ref x)] [.int (Int32.ofNat V.slots.size >>> (cd &&& 31))])) := Steps.trans g4 (by
    refine ishr X4.here hexec rfl (hb hbytes d9) rfl ?_
    exact Steps.refl _)
  rw [hx.2.2.2.2.1.len v31] at c5
  exact ⟨T4, some (.int (Int32.ofNat n)), _, _, _, X4, rfl, rfl, rfl, (fun h => by cases h), ⟨rfl, q4.trans hh2⟩, fun fs hl => c5.trans (X4.ireturnOut hexec hret rfl (Or.inl rfl) (hb hbytes d10) hl)⟩
theorem pays {l : Launch} {R : Room} {p : Program} {e : Env} {below : List Frame} {s : State} {sargs : Array Value} {len W : Nat} (x t : Addr) (V : Cell) (cd : Int32) (n : Nat) (f : Nat → Int32) (z : Int32) (htab : tab.before sargs s = true) (hfr : 2 ≤ R.frames) (hlo : W + 25 ≤ R.locals) :
    Back l R p e below s sargs yN len W (fun A₁ a₁ => A₁.cells + 0 ≤ R.cells ∧ A₁.slots + 0 ≤ R.slots ∧ P x t V cd n f z a₁ A₁.U) (fun A₁ _ v₁ B₁ => E n v₁ A₁.U B₁.U ∧ B₁.locs = A₁.locs ++ [] ∧ B₁.cells = A₁.cells + 0 ∧ B₁.slots = A₁.slots + 0) :=
  (law l x t V cd n f z).pays htab hfr (by omega)
end Len
end StrChars
namespace StrChars.Road
open Jvm Sem ClassFile Op Lib Jvm.Stand Jvm.Free Jvm.Free.XT
open Jvm.Lib.Cold (StaticIs)
theorem consq {a : Array Value} {s : State} {c : Jvm.Cond} {L : List Jvm.Cond} (h0 : c.before a s = true) (h : ∀ w ∈ L, w.before a s = true) : ∀ w ∈ c :: L, w.before a s = true := fun w hw => (List.mem_cons.mp hw).elim (fun e => e ▸ h0) (h w)
/-- the words of String.length(), either coding -/
abbrev wordsLen : List Jvm.Cond := [.code Len.yN Len.yB 1 (some .int), .initialized ST, .fieldLink ST 9 ST "value" "[B", .fieldLink ST 38 ST "COMPACT_STRINGS" "Z", .fieldLink ST 15 ST "coder" "B", .code Cdr.yN Cdr.yB 1 (some .byte), .methodLink ST 335 Cdr.yN, .declares Cdr.yN, .selects ST Cdr.yN Cdr.yN, .instanceMethod Cdr.yN]
theorem tabLen_of {a : Array Value} {s : State} (h : ∀ w ∈ wordsLen, w.before a s = true) : Len.tab.before a s = true := by
  have hc : Cdr.tab.before a s = true := unparts (wk h (.code Cdr.yN Cdr.yB 1 (some .byte))) (wks h (.initialized Cdr.yN.cls :: Cdr.site))
  have q := consq hc h
  exact unparts (wk q (.code Len.yN Len.yB 1 (some .int))) (wks q (.initialized Len.yN.cls :: Len.site))
theorem movedLen {Z s : State} {a0 args : Array Value} (hZ : Z.Warmed39 s.vm) (hw : ∀ d ∈ wordsLen, d.before a0 Z = true) : ∀ d ∈ wordsLen, d.before args s = true := fun d hd => by
  have q := hw d hd
  have t : ∀ d ∈ wordsLen, d = .arrayClass .byte ∨ (d.onTables && d.keepsFace) = true := by decide +kernel
  rcases t d hd with rfl | t
  · exact RoadKit.mvA hZ q
  · exact RoadKit.mv hZ q t
/-- the bytes of the chars cs, low before high -/
def wideBytes : List Int32 → List Value
  | [] => []
  | c :: cs => .int (lo8 c) :: .int (hi8 c) :: wideBytes cs
theorem wide_lo (d : Value) : ∀ (cs : List Int32) (j : Nat), j < cs.length → (wideBytes cs).getD (2 * j) d = .int (lo8 (cs.getD j 0))
  | [], j, h => absurd h (Nat.not_lt_zero j)
  | c :: cs, 0, _ => rfl
  | c :: cs, j + 1, h => by
    have q := wide_lo d cs j (by simpa using h)
    rw [show 2 * (j + 1) = 2 * j + 1 + 1 from by omega]
    simpa [wideBytes] using q
theorem wide_hi (d : Value) : ∀ (cs : List Int32) (j : Nat), j < cs.length → (wideBytes cs).getD (2 * j + 1) d = .int (hi8 (cs.getD j 0))
  | [], j, h => absurd h (Nat.not_lt_zero j)
  | c :: cs, 0, _ => rfl
  | c :: cs, j + 1, h => by
    have q := wide_hi d cs j (by simpa using h)
    rw [show 2 * (j + 1) + 1 = 2 * j + 1 + 1 + 1 from by omega]
    simpa [wideBytes] using q
theorem low_at (d : Value) (cs : List Int32) (j : Nat) (h : j < cs.length) : (cs.map fun c => Value.int (lo8 c)).getD j d = .int (lo8 (cs.getD j 0)) := by
  simp [List.getD_eq_getElem?_getD, h]
/-- an array of N2 bytes vs codes the chars cs by the coder cd -/
def CodA (cs : List Int32) (cd N2 : Int32) (vs : List Value) : Prop := (cd = 0 ∧ N2 = Int32.ofNat cs.length ∧ vs = (cs.map fun c => Value.int (lo8 c)) ∧ ∀ c ∈ cs, ¬ 255 < c) ∨ (cd = 1 ∧ N2 = Int32.ofNat (2 * cs.length) ∧ vs = wideBytes cs ∧ ∃ c ∈ cs, 255 < c)
theorem CodA.cod {cs : List Int32} {cd N2 : Int32} {vs : List Value} {V : Cell} (h : CodA cs cd N2 vs) (hn : 2 * cs.length < 2 ^ 31) (hs : V.slots.size = N2.toNatClampNeg) (hv : RoadKit.Has V vs (.int 0)) : Cod cd cs.length (fun j => cs.getD j 0) V := by
  rcases h with ⟨rfl, rfl, rfl, h⟩ | ⟨rfl, rfl, rfl, c, hc, hw⟩
  · rw [n32 (by omega)] at hs
    exact Or.inl ⟨rfl, hs, fun j hj => ⟨by rw [hv j (by omega), low_at _ _ _ hj], by
      have e : cs.getD j 0 = cs[j] := by simp [List.getD_eq_getElem?_getD, hj]
      show ¬ 255 < cs.getD j 0
      rw [e]; exact h _ (List.getElem_mem _)⟩⟩
  · rw [n32 (by omega)] at hs
    obtain ⟨j, hj, rfl⟩ := List.getElem_of_mem hc
    exact Or.inr ⟨rfl, hs, fun j hj => ⟨by rw [hv _ (by omega), wide_lo _ _ _ hj], by rw [hv _ (by omega), wide_hi _ _ _ hj]⟩, j, hj, by
      have e : cs.getD j 0 = cs[j] := by simp [List.getD_eq_getElem?_getD, hj]
      show 255 < cs.getD j 0
      rw [e]; exact hw⟩
/-- an object of exactly java/lang/String, its two fields found: as the laws ask it -/
theorem strObj {Z U : State} {a0 : Array Value} {kI : Nat} (wi : (Jvm.Cond.instantiable ST kI).before a0 Z = true) (al : Z.vm.Alike U.vm) {x : Addr} {v0 c0 : Value} (E : RoadKit.Exa Z U.heap x ST) (V : RoadKit.Fld Z U.heap x ST "value" "[B" v0) (C : RoadKit.Fld Z U.heap x ST "coder" "B" c0) :
    ∃ (D : Cell) (fV fC : Field), Blank ST x D U ∧ Found ST "value" "[B" fV U ∧ Found ST "coder" "B" fC U ∧ D.slots[fV.slot]? = some v0 ∧ D.slots[fC.slot]? = some c0 ∧ RoadKit.slotOf Z ST "value" "[B" = fV.slot ∧ RoadKit.slotOf Z ST "coder" "B" = fC.slot := by
  obtain ⟨D, cfV, kV, iV, fV, hD, gV, stV, knV, obV, asV, slV⟩ := V
  obtain ⟨D', cfC, kC, iC, fC, hD', gC, stC, -, -, asC, slC⟩ := C
  cases hD.symm.trans hD'
  obtain ⟨D2, kD, e1, e2, e3, e4, e5⟩ := E
  cases hD.symm.trans e1
  obtain ⟨c2, k2, i1, i2, i3, -⟩ := Cond.instantiable_spec wi
  cases e2.symm.trans i1
  cases e3.symm.trans i2
  obtain ⟨kU, u1, u2⟩ := al.2.2 _ _ e3
  exact ⟨D, fV, fC, ⟨hD, ⟨knV, fun q hq => by rw [hq] at obV; cases obV⟩, by rw [al.findClass]; exact e2, kU, u1, by rw [u2]; exact i3, by rw [u2]; exact e5 i3⟩, ⟨SBG.found_only al ⟨cfV, kV, iV, gV⟩, stV⟩, ⟨SBG.found_only al ⟨cfC, kC, iC, gC⟩, stC⟩, slV, slC, by simp [RoadKit.slotOf, gV], by simp [RoadKit.slotOf, gC]⟩
theorem sta_is {Z U : State} (al : Z.vm.Alike U.vm) {C n d : String} {v : Value} (S : RoadKit.Sta Z U.heap C n d v) : StaticIs U C n d v := by
  obtain ⟨cfS, iS, kS, fS, st, cS, t1, t2, t3, t4, t5, t6, t7⟩ := S
  exact StaticIs.there (s := { Z with heap := U.heap }) ⟨cfS, iS, kS, fS, st, cS, t1, t2, t3, t4, t5, (fun q => by rw [q] at t6; cases t6), t7⟩ al rfl
/-- **length() OF SUCH A STRING** -/
theorem lenW {p : Program} {l : Launch} {e : Env} {R : Room} {s : State} {args : Array Value} {below : List Frame} {len W : Nat} {Z : State} {a0 : Array Value} {h : Heap} (hZ : Z.Warmed39 s.vm) (hw : ∀ d ∈ wordsLen, d.before a0 Z = true) {kI : Nat} (wi : (Jvm.Cond.instantiable ST kI).before a0 Z = true)
    {x t : Addr} {kb : ClassId} {cs : List Int32} {cd N2 z : Int32} {vs : List Value} (E : RoadKit.Exa Z h x ST) (V : RoadKit.Fld Z h x ST "value" "[B" (.ref t)) (C : RoadKit.Fld Z h x ST "coder" "B" (.int cd)) (K : RoadKit.Arv Z h t kb .byte N2 vs (.int 0)) (hc : CodA cs cd N2 vs) (hb : ∀ c ∈ cs, ¬ c < 0 ∧ ¬ (65535 : Int32) < c)
    (S : RoadKit.Sta Z h ST "COMPACT_STRINGS" "Z" (.int z)) (hz : ¬ z = 0) (l2 : cs.length ≤ 4000) (hfr : 2 ≤ R.frames) (hlo : W + 25 ≤ R.locals) :
    Back l R p e below s args (⟨"java/lang/String", "length", "()I"⟩ : MethodName) len W (fun P a => a = #[.ref x] ∧ P.U.heap = h ∧ P.cells + 0 ≤ R.cells ∧ P.slots + 0 ≤ R.slots)
      (fun P _ v B => ∃ L, (v = some (.int (Int32.ofNat cs.length)) ∧ L = [] ∧ B.U.heap = h) ∧ B.locs = P.locs ++ L ∧ B.cells = P.cells + 0 ∧ B.slots = P.slots + 0) := by
  obtain ⟨A, K1, K2, K3, K4, K5, K6⟩ := K
  have hcod := hc.cod (by omega) K3 K5
  intro m meth c P g ig mk a X hg hsize hdg hW hn hp'
  obtain ⟨rfl, rfl, r1, r2⟩ := hp'
  have al : Z.vm.Alike P.U.vm := hZ.alike.trans X.warmed.alike
  obtain ⟨D, fV, fC, hB, F1, F2, g1, g2, -, -⟩ := strObj wi al E V C
  have hx : Txt x t A cd cs.length (fun j => cs.getD j 0) P.U := ⟨⟨_, hB.2.2.1, D, hB.1, rfl, by cases q : D.vm <;> first | rfl | exact absurd q (hB.2.1.2 _)⟩, Has.of hB F1 g1, Has.of hB F2 g2, ⟨K1.1, State.isArrayOf_alike al K1.2.1, K1.2.2, by rcases hcod with ⟨-, q, -⟩ | ⟨-, q, -⟩ <;> omega⟩, hcod, fun j hj => by
    have e : cs.getD j 0 = cs[j] := by simp [List.getD_eq_getElem?_getD, hj]
    show ¬ cs.getD j 0 < 0 ∧ ¬ 65535 < cs.getD j 0
    rw [e]; exact hb _ (List.getElem_mem _)⟩
  obtain ⟨v, B, X', ⟨⟨hv, hh⟩, hl, hk, hs⟩, st⟩ := Len.pays x t A cd cs.length (fun j => cs.getD j 0) z (tabLen_of (movedLen hZ hw)) hfr hlo m meth c P g ig mk _ X hg hsize hdg hW hn ⟨r1, r2, rfl, hx, sta_is al S, hz⟩
  exact ⟨v, B, X', ⟨[], ⟨hv, rfl, hh⟩, hl, hk, hs⟩, st⟩
end StrChars.Road
end Jvm.Pilot.@@N@@
namespace Jvm.Pilot.@@N@@
open Jvm Jvm.ClassFile Sem Op Lib Jvm.Free Jvm.Stand Jvm.LawKit Jvm.RoadKit Bundle Jvm.Pilot.@@N@@.Jvm.D
theorem own_fill : ∀ (vs : List Value) (acc : Array Slot), (∀ v ∈ vs, v.category ≠ 2) → vs.foldl (fun acc v => if v.category = 2 then (acc.push (Slot.val v)).push .second else acc.push (.val v)) acc = acc ++ (vs.map Slot.val).toArray
  | [], acc, _ => by simp
  | v :: vs, acc, h => by
    rw [List.foldl_cons, if_neg (h v (by simp)), own_fill vs _ (fun w hw => h w (by simp [hw]))]
    simp
theorem own_entry (m : MethodId) (vs : List Value) (n : Nat) (hv : ∀ v ∈ vs, v.category ≠ 2) {ls : Array Slot} (hl : (vs.map Slot.val ++ List.replicate (n - vs.length) Slot.unset).toArray = ls) : entryFrame m vs.toArray n = mkF m 0 ls [] := by
  have e : argsToLocals vs.toArray n = (vs.map Slot.val ++ List.replicate (n - vs.length) Slot.unset).toArray := by
    unfold argsToLocals
    simp only [List.foldl_toArray']
    rw [own_fill vs #[] hv]
    simp
  unfold entryFrame
  rw [e, hl]
section OwnLayer
variable {p : Program} {l : Launch} {e : Env} {R : Room} {s : State} {m : MethodId} {args : Array Value} {below : List Frame} {meth : Method} {c : Code}
variable {Z : State} {a0 : Array Value} {EL : List (String × Nat)} {L0 : List Loc} {own nm : String} {bs : ByteArray} {ml : Nat} {rt : Option FieldType}
variable {T : State} {h : Heap} {SF : List Addr} {k j : Nat} {Q : Option Value → Heap → List Addr → Prop}
/-- where a walk stands: its frame's constants, the heap h, the cells SF that may be written, k new cells, j new slots; the tables may have interned meanwhile -/
def Owk (p : Program) (l : Launch) (e : Env) (R : Room) (s : State) (m : MethodId) (args : Array Value) (below : List Frame) (meth : Method) (c : Code) (Z : State) (a0 : Array Value) (EL : List (String × Nat)) (L0 : List Loc) (own nm : String) (bs : ByteArray) (ml : Nat) (rt : Option FieldType) (T : State) (h : Heap) (SF : List Addr) (k j : Nat) : Prop :=
  (p.tables.exec = Jvm.exec ∧ EW Z a0 EL ∧ s.vm.findClass own = some m.cls ∧ c.code = bs ∧ c.maxLocals = ml ∧ meth.sig.returnType = rt ∧ meth.locks = false ∧ meth.name = nm) ∧
  T.heap = h ∧ (∀ x ∈ SF, x < h.size) ∧ k ≤ R.cells ∧ j ≤ R.slots ∧
  ∃ (vm0 : Vm) (k0 : Nat), Stand p l e R (s.setVm vm0) m args below meth c T L0 k j ∧ Z.Warmed39 vm0 ∧ s.Since vm0 k0 ∧ k0 ≤ h.size ∧ CHr Z EL s.vm s.heap vm0 h ∧ ∀ x ∈ SF, Safe Z EL vm0 h x
/-- from the frame g at T the body comes to its return, with Q of what it returns and the heap then -/
def Ogo (p : Program) (l : Launch) (e : Env) (R : Room) (s : State) (m : MethodId) (args : Array Value) (below : List Frame) (meth : Method) (c : Code) (Z : State) (a0 : Array Value) (EL : List (String × Nat)) (L0 : List Loc) (own nm : String) (bs : ByteArray) (ml : Nat) (rt : Option FieldType) (T : State) (g : JFrame) (Q : Option Value → Heap → List Addr → Prop) : Prop :=
  ∃ (T' : State) (v : Option Value) (h' : Heap) (SF : List Addr) (k j : Nat), Owk p l e R s m args below meth c Z a0 EL L0 own nm bs ml rt T' h' SF k j ∧ (rt = none → v = none) ∧ Q v h' SF ∧
    ∀ fs, (∀ (f : JFrame) (acts : List Action), f.method = m → f.locked = none → f.entered = [] → (doReturn e (T'.setTop f) acts v).1 = T'.setFrames fs) → Steps p.tables e below (T.setTop g) (T'.setFrames fs)
theorem own_step {T2 : State} {g g2 : JFrame} (hs : ∀ t, Steps p.tables e below (T2.setTop g2) t → Steps p.tables e below (T.setTop g) t) (K : Ogo p l e R s m args below meth c Z a0 EL L0 own nm bs ml rt T2 g2 Q) : Ogo p l e R s m args below meth c Z a0 EL L0 own nm bs ml rt T g Q := by
  obtain ⟨T', v, h', SF', k', j', W, hv, hq, st⟩ := K
  exact ⟨T', v, h', SF', k', j', W, hv, hq, fun fs hl => hs _ (st fs hl)⟩
theorem Owk.at (W : Owk p l e R s m args below meth c Z a0 EL L0 own nm bs ml rt T h SF k j) : At T m c below := by obtain ⟨-, -, -, -, -, vm0, k0, X, -⟩ := W; exact X.here
theorem Owk.ex (W : Owk p l e R s m args below meth c Z a0 EL L0 own nm bs ml rt T h SF k j) : p.tables.exec = Jvm.exec := W.1.1
theorem Owk.hb (W : Owk p l e R s m args below meth c Z a0 EL L0 own nm bs ml rt T h SF k j) {pc : Nat} {r : Except ClassFile.DecodeError (ClassFile.Instr × Nat)} (h2 : decode bs pc = r) : decode c.code pc = r := by rw [W.1.2.2.2.1]; exact h2
theorem Owk.sf (W : Owk p l e R s m args below meth c Z a0 EL L0 own nm bs ml rt T h SF k j) {SF' : List Addr} (q : ∀ x ∈ SF', x ∈ SF) : Owk p l e R s m args below meth c Z a0 EL L0 own nm bs ml rt T h SF' k j := by
  obtain ⟨w1, w2, w3, w4, w5, vm0, k0, X, w6, w7, w8, w9, w10⟩ := W
  exact ⟨w1, w2, fun x hx => w3 x (q x hx), w4, w5, vm0, k0, X, w6, w7, w8, w9, fun x hx => w10 x (q x hx)⟩
theorem Owk.up (W : Owk p l e R s m args below meth c Z a0 EL L0 own nm bs ml rt T h SF k j) {k' j' : Nat} (q1 : k ≤ k') (q2 : j ≤ j') (r1 : k' ≤ R.cells) (r2 : j' ≤ R.slots) : Owk p l e R s m args below meth c Z a0 EL L0 own nm bs ml rt T h SF k' j' := by
  obtain ⟨w1, w2, w3, w4, w5, vm0, k0, X, w6, w7, w8, w9, w10⟩ := W
  exact ⟨w1, w2, w3, r1, r2, vm0, k0, X.mono q1 q2, w6, w7, w8, w9, w10⟩
theorem Owk.grown (W : Owk p l e R s m args below meth c Z a0 EL L0 own nm bs ml rt T h SF k j) : s.heap.size ≤ h.size := by
  obtain ⟨-, -, -, -, -, vm0, k0, -, -, -, -, w9, -⟩ := W; exact w9.2.1
/-! plain steps -/
section Plain
variable {pc pc' : Nat} {ls : Array Slot} {st : List Value}
theorem g_iloadN (W : Owk p l e R s m args below meth c Z a0 EL L0 own nm bs ml rt T h SF k j) {i : Fin 4} {v : Int32} (hd : decode bs pc = .ok (.iload_n i, 1)) (hp : pc' = pc + 1) (hl : ls[i.val]? = some (.val (.int v))) (K : Ogo p l e R s m args below meth c Z a0 EL L0 own nm bs ml rt T (mkF m pc' ls (.int v :: st)) Q) : Ogo p l e R s m args below meth c Z a0 EL L0 own nm bs ml rt T (mkF m pc ls st) Q := by
  subst hp; exact own_step (fun t q => XS.iloadN W.at W.ex rfl (W.hb hd) hl q) K
theorem g_iload (W : Owk p l e R s m args below meth c Z a0 EL L0 own nm bs ml rt T h SF k j) {i : Nat} {v : Int32} (hd : decode bs pc = .ok (.iload i, 2)) (hp : pc' = pc + 2) (hl : ls[i]? = some (.val (.int v))) (K : Ogo p l e R s m args below meth c Z a0 EL L0 own nm bs ml rt T (mkF m pc' ls (.int v :: st)) Q) : Ogo p l e R s m args below meth c Z a0 EL L0 own nm bs ml rt T (mkF m pc ls st) Q := by
  subst hp; exact own_step (fun t q => XS.iload W.at W.ex rfl (W.hb hd) hl q) K
theorem g_aloadN (W : Owk p l e R s m args below meth c Z a0 EL L0 own nm bs ml rt T h SF k j) {i : Fin 4} {v : Value} (hd : decode bs pc = .ok (.aload_n i, 1)) (hp : pc' = pc + 1) (hl : ls[i.val]? = some (.val v)) (hv : v.isRef = true) (K : Ogo p l e R s m args below meth c Z a0 EL L0 own nm bs ml rt T (mkF m pc' ls (v :: st)) Q) : Ogo p l e R s m args below meth c Z a0 EL L0 own nm bs ml rt T (mkF m pc ls st) Q := by
  subst hp; exact own_step (fun t q => XS.aloadN W.at W.ex rfl (W.hb hd) hl hv q) K
theorem g_aload (W : Owk p l e R s m args below meth c Z a0 EL L0 own nm bs ml rt T h SF k j) {i : Nat} {v : Value} (hd : decode bs pc = .ok (.aload i, 2)) (hp : pc' = pc + 2) (hl : ls[i]? = some (.val v)) (hv : v.isRef = true) (K : Ogo p l e R s m args below meth c Z a0 EL L0 own nm bs ml rt T (mkF m pc' ls (v :: st)) Q) : Ogo p l e R s m args below meth c Z a0 EL L0 own nm bs ml rt T (mkF m pc ls st) Q := by
  subst hp; exact own_step (fun t q => XS.aload W.at W.ex rfl (W.hb hd) hl hv q) K
theorem g_iconst (W : Owk p l e R s m args below meth c Z a0 EL L0 own nm bs ml rt T h SF k j) {i : Int} {v : Int32} (hd : decode bs pc = .ok (.iconst i, 1)) (hp : pc' = pc + 1) (hv : Int32.ofInt i = v) (K : Ogo p l e R s m args below meth c Z a0 EL L0 own nm bs ml rt T (mkF m pc' ls (.int v :: st)) Q) : Ogo p l e R s m args below meth c Z a0 EL L0 own nm bs ml rt T (mkF m pc ls st) Q := by
  subst hp hv; exact own_step (fun t q => XS.iconst W.at W.ex rfl (W.hb hd) q) K
theorem g_bipush (W : Owk p l e R s m args below meth c Z a0 EL L0 own nm bs ml rt T h SF k j) {i : Int} {v : Int32} (hd : decode bs pc = .ok (.bipush i, 2)) (hp : pc' = pc + 2) (hv : (Int8.ofInt i).toInt32 = v) (K : Ogo p l e R s m args below meth c Z a0 EL L0 own nm bs ml rt T (mkF m pc' ls (.int v :: st)) Q) : Ogo p l e R s m args below meth c Z a0 EL L0 own nm bs ml rt T (mkF m pc ls st) Q := by
  subst hp hv; exact own_step (fun t q => XS.bipush W.at W.ex rfl (W.hb hd) q) K
theorem g_sipush (W : Owk p l e R s m args below meth c Z a0 EL L0 own nm bs ml rt T h SF k j) {i : Int} {v : Int32} (hd : decode bs pc = .ok (.sipush i, 3)) (hp : pc' = pc + 3) (hv : (Int16.ofInt i).toInt32 = v) (K : Ogo p l e R s m args below meth c Z a0 EL L0 own nm bs ml rt T (mkF m pc' ls (.int v :: st)) Q) : Ogo p l e R s m args below meth c Z a0 EL L0 own nm bs ml rt T (mkF m pc ls st) Q := by
  subst hp hv; exact own_step (fun t q => XS.sipush W.at W.ex rfl (W.hb hd) q) K
theorem g_aconst_null (W : Owk p l e R s m args below meth c Z a0 EL L0 own nm bs ml rt T h SF k j) (hd : decode bs pc = .ok (.aconst_null, 1)) (hp : pc' = pc + 1) (K : Ogo p l e R s m args below meth c Z a0 EL L0 own nm bs ml rt T (mkF m pc' ls (.null :: st)) Q) : Ogo p l e R s m args below meth c Z a0 EL L0 own nm bs ml rt T (mkF m pc ls st) Q := by
  subst hp; exact own_step (fun t q => XS.aconstNull W.at W.ex rfl (W.hb hd) q) K
theorem g_istoreN (W : Owk p l e R s m args below meth c Z a0 EL L0 own nm bs ml rt T h SF k j) {i : Fin 4} {v : Int32} {ls' : Array Slot} (hd : decode bs pc = .ok (.istore_n i, 1)) (hp : pc' = pc + 1) (hl : storeLocals ls i.val (.int v) = some ls') (K : Ogo p l e R s m args below meth c Z a0 EL L0 own nm bs ml rt T (mkF m pc' ls' st) Q) : Ogo p l e R s m args below meth c Z a0 EL L0 own nm bs ml rt T (mkF m pc ls (.int v :: st)) Q := by
  subst hp; exact own_step (fun t q => XS.istoreN W.at W.ex rfl (W.hb hd) rfl hl q) K
theorem g_istore (W : Owk p l e R s m args below meth c Z a0 EL L0 own nm bs ml rt T h SF k j) {i : Nat} {v : Int32} {ls' : Array Slot} (hd : decode bs pc = .ok (.istore i, 2)) (hp : pc' = pc + 2) (hl : storeLocals ls i (.int v) = some ls') (K : Ogo p l e R s m args below meth c Z a0 EL L0 own nm bs ml rt T (mkF m pc' ls' st) Q) : Ogo p l e R s m args below meth c Z a0 EL L0 own nm bs ml rt T (mkF m pc ls (.int v :: st)) Q := by
  subst hp; exact own_step (fun t q => XS.istore W.at W.ex rfl (W.hb hd) rfl hl q) K
theorem g_astoreN (W : Owk p l e R s m args below meth c Z a0 EL L0 own nm bs ml rt T h SF k j) {i : Fin 4} {v : Value} {ls' : Array Slot} (hd : decode bs pc = .ok (.astore_n i, 1)) (hp : pc' = pc + 1) (hv : v.isRef = true) (hl : storeLocals ls i.val v = some ls') (K : Ogo p l e R s m args below meth c Z a0 EL L0 own nm bs ml rt T (mkF m pc' ls' st) Q) : Ogo p l e R s m args below meth c Z a0 EL L0 own nm bs ml rt T (mkF m pc ls (v :: st)) Q := by
  subst hp; exact own_step (fun t q => XS.astoreN W.at W.ex rfl (W.hb hd) rfl hv hl q) K
theorem g_astore (W : Owk p l e R s m args below meth c Z a0 EL L0 own nm bs ml rt T h SF k j) {i : Nat} {v : Value} {ls' : Array Slot} (hd : decode bs pc = .ok (.astore i, 2)) (hp : pc' = pc + 2) (hv : v.isRef = true) (hl : storeLocals ls i v = some ls') (K : Ogo p l e R s m args below meth c Z a0 EL L0 own nm bs ml rt T (mkF m pc' ls' st) Q) : Ogo p l e R s m args below meth c Z a0 EL L0 own nm bs ml rt T (mkF m pc ls (v :: st)) Q := by
  subst hp; exact own_step (fun t q => XS.astore W.at W.ex rfl (W.hb hd) rfl hv hl q) K
theorem g_iinc (W : Owk p l e R s m args below meth c Z a0 EL L0 own nm bs ml rt T h SF k j) {i : Nat} {d : Int} {x v : Int32} {ls' : Array Slot} (hd : decode bs pc = .ok (.iinc i d, 3)) (hp : pc' = pc + 3) (hl : ls[i]? = some (.val (.int x))) (hv : x + Int32.ofInt d = v) (hl' : storeLocals ls i (.int v) = some ls') (K : Ogo p l e R s m args below meth c Z a0 EL L0 own nm bs ml rt T (mkF m pc' ls' st) Q) : Ogo p l e R s m args below meth c Z a0 EL L0 own nm bs ml rt T (mkF m pc ls st) Q := by
  subst hp hv; exact own_step (fun t q => XS.iinc W.at W.ex rfl (W.hb hd) hl hl' q) K
theorem g_goto (W : Owk p l e R s m args below meth c Z a0 EL L0 own nm bs ml rt T h SF k j) {o : Int} (hd : decode bs pc = .ok (.goto o, 3)) (ho : 0 ≤ (pc : Int) + o) (hp : ((pc : Int) + o).toNat = pc') (K : Ogo p l e R s m args below meth c Z a0 EL L0 own nm bs ml rt T (mkF m pc' ls st) Q) : Ogo p l e R s m args below meth c Z a0 EL L0 own nm bs ml rt T (mkF m pc ls st) Q := by
  exact own_step (fun t q => XS.goto W.at W.ex rfl (pc0 := pc) rfl (W.hb hd) ho hp q) K
theorem g_dup (W : Owk p l e R s m args below meth c Z a0 EL L0 own nm bs ml rt T h SF k j) {x : Value} (hd : decode bs pc = .ok (.dup, 1)) (hp : pc' = pc + 1) (hc : x.category = 1) (K : Ogo p l e R s m args below meth c Z a0 EL L0 own nm bs ml rt T (mkF m pc' ls (x :: x :: st)) Q) : Ogo p l e R s m args below meth c Z a0 EL L0 own nm bs ml rt T (mkF m pc ls (x :: st)) Q := by
  subst hp; exact own_step (fun t q => XS.dup W.at W.ex rfl (W.hb hd) rfl hc q) K
theorem g_pop (W : Owk p l e R s m args below meth c Z a0 EL L0 own nm bs ml rt T h SF k j) {x : Value} (hd : decode bs pc = .ok (.pop, 1)) (hp : pc' = pc + 1) (hc : x.category = 1) (K : Ogo p l e R s m args below meth c Z a0 EL L0 own nm bs ml rt T (mkF m pc' ls st) Q) : Ogo p l e R s m args below meth c Z a0 EL L0 own nm bs ml rt T (mkF m pc ls (x :: st)) Q := by
  subst hp; exact own_step (fun t q => XT.pop W.at W.ex rfl (W.hb hd) rfl hc q) K
theorem g_iadd (W : Owk p l e R s m args below meth c Z a0 EL L0 own nm bs ml rt T h SF k j) {x y : Int32} (hd : decode bs pc = .ok (.iadd, 1)) (hp : pc' = pc + 1) (K : Ogo p l e R s m args below meth c Z a0 EL L0 own nm bs ml rt T (mkF m pc' ls (.int (x + y) :: st)) Q) : Ogo p l e R s m args below meth c Z a0 EL L0 own nm bs ml rt T (mkF m pc ls (.int y :: .int x :: st)) Q := by
  subst hp; exact own_step (fun t q => XS.iadd W.at W.ex rfl (W.hb hd) rfl q) K
theorem g_isub (W : Owk p l e R s m args below meth c Z a0 EL L0 own nm bs ml rt T h SF k j) {x y : Int32} (hd : decode bs pc = .ok (.isub, 1)) (hp : pc' = pc + 1) (K : Ogo p l e R s m args below meth c Z a0 EL L0 own nm bs ml rt T (mkF m pc' ls (.int (x - y) :: st)) Q) : Ogo p l e R s m args below meth c Z a0 EL L0 own nm bs ml rt T (mkF m pc ls (.int y :: .int x :: st)) Q := by
  subst hp; exact own_step (fun t q => XS.isub W.at W.ex rfl (W.hb hd) rfl q) K
theorem g_iand (W : Owk p l e R s m args below meth c Z a0 EL L0 own nm bs ml rt T h SF k j) {x y : Int32} (hd : decode bs pc = .ok (.iand, 1)) (hp : pc' = pc + 1) (K : Ogo p l e R s m args below meth c Z a0 EL L0 own nm bs ml rt T (mkF m pc' ls (.int (x &&& y) :: st)) Q) : Ogo p l e R s m args below meth c Z a0 EL L0 own nm bs ml rt T (mkF m pc ls (.int y :: .int x :: st)) Q := by
  subst hp; exact own_step (fun t q => XS.iand W.at W.ex rfl (W.hb hd) rfl q) K
theorem g_ior (W : Owk p l e R s m args below meth c Z a0 EL L0 own nm bs ml rt T h SF k j) {x y : Int32} (hd : decode bs pc = .ok (.ior, 1)) (hp : pc' = pc + 1) (K : Ogo p l e R s m args below meth c Z a0 EL L0 own nm bs ml rt T (mkF m pc' ls (.int (x ||| y) :: st)) Q) : Ogo p l e R s m args below meth c Z a0 EL L0 own nm bs ml rt T (mkF m pc ls (.int y :: .int x :: st)) Q := by
  subst hp; exact own_step (fun t q => XT.ior W.at W.ex rfl (W.hb hd) rfl q) K
theorem g_imul (W : Owk p l e R s m args below meth c Z a0 EL L0 own nm bs ml rt T h SF k j) {x y : Int32} (hd : decode bs pc = .ok (.imul, 1)) (hp : pc' = pc + 1) (K : Ogo p l e R s m args below meth c Z a0 EL L0 own nm bs ml rt T (mkF m pc' ls (.int (x * y) :: st)) Q) : Ogo p l e R s m args below meth c Z a0 EL L0 own nm bs ml rt T (mkF m pc ls (.int y :: .int x :: st)) Q := by
  subst hp; exact own_step (fun t q => XS.imul W.at W.ex rfl (W.hb hd) rfl q) K
theorem g_ishl (W : Owk p l e R s m args below meth c Z a0 EL L0 own nm bs ml rt T h SF k j) {x y : Int32} (hd : decode bs pc = .ok (.ishl, 1)) (hp : pc' = pc + 1) (K : Ogo p l e R s m args below meth c Z a0 EL L0 own nm bs ml rt T (mkF m pc' ls (.int (x <<< (y &&& 31)) :: st)) Q) : Ogo p l e R s m args below meth c Z a0 EL L0 own nm bs ml rt T (mkF m pc ls (.int y :: .int x :: st)) Q := by
  subst hp; exact own_step (fun t q => XT.ishl W.at W.ex rfl (W.hb hd) rfl q) K
theorem g_ishr (W : Owk p l e R s m args below meth c Z a0 EL L0 own nm bs ml rt T h SF k j) {x y : Int32} (hd : decode bs pc = .ok (.ishr, 1)) (hp : pc' = pc + 1) (K : Ogo p l e R s m args below meth c Z a0 EL L0 own nm bs ml rt T (mkF m pc' ls (.int (x >>> (y &&& 31)) :: st)) Q) : Ogo p l e R s m args below meth c Z a0 EL L0 own nm bs ml rt T (mkF m pc ls (.int y :: .int x :: st)) Q := by
  subst hp; exact own_step (fun t q => XT.ishr W.at W.ex rfl (W.hb hd) rfl q) K
theorem g_iushr (W : Owk p l e R s m args below meth c Z a0 EL L0 own nm bs ml rt T h SF k j) {x y : Int32} (hd : decode bs pc = .ok (.iushr, 1)) (hp : pc' = pc + 1) (K : Ogo p l e R s m args below meth c Z a0 EL L0 own nm bs ml rt T (mkF m pc' ls (.int (XT.ushr x y) :: st)) Q) : Ogo p l e R s m args below meth c Z a0 EL L0 own nm bs ml rt T (mkF m pc ls (.int y :: .int x :: st)) Q := by
  subst hp; exact own_step (fun t q => XT.iushr W.at W.ex rfl (W.hb hd) rfl q) K
theorem g_irem (W : Owk p l e R s m args below meth c Z a0 EL L0 own nm bs ml rt T h SF k j) {x y : Int32} (hd : decode bs pc = .ok (.irem, 1)) (hp : pc' = pc + 1) (hy : y ≠ 0) (K : Ogo p l e R s m args below meth c Z a0 EL L0 own nm bs ml rt T (mkF m pc' ls (.int (x % y) :: st)) Q) : Ogo p l e R s m args below meth c Z a0 EL L0 own nm bs ml rt T (mkF m pc ls (.int y :: .int x :: st)) Q := by
  obtain ⟨-, -, -, -, -, vm0, k0, X, -⟩ := id W
  subst hp; exact own_step (fun t q => iremM X W.ex rfl (W.hb hd) rfl hy q) K
theorem g_i2b (W : Owk p l e R s m args below meth c Z a0 EL L0 own nm bs ml rt T h SF k j) {x : Int32} (hd : decode bs pc = .ok (.i2b, 1)) (hp : pc' = pc + 1) (K : Ogo p l e R s m args below meth c Z a0 EL L0 own nm bs ml rt T (mkF m pc' ls (.int x.toInt8.toInt32 :: st)) Q) : Ogo p l e R s m args below meth c Z a0 EL L0 own nm bs ml rt T (mkF m pc ls (.int x :: st)) Q := by
  subst hp; exact own_step (fun t q => XT.i2b W.at W.ex rfl (W.hb hd) rfl q) K
theorem g_i2c (W : Owk p l e R s m args below meth c Z a0 EL L0 own nm bs ml rt T h SF k j) {x : Int32} (hd : decode bs pc = .ok (.i2c, 1)) (hp : pc' = pc + 1) (K : Ogo p l e R s m args below meth c Z a0 EL L0 own nm bs ml rt T (mkF m pc' ls (.int x.toUInt32.toUInt16.toUInt32.toInt32 :: st)) Q) : Ogo p l e R s m args below meth c Z a0 EL L0 own nm bs ml rt T (mkF m pc ls (.int x :: st)) Q := by
  subst hp; exact own_step (fun t q => XT.i2c W.at W.ex rfl (W.hb hd) rfl q) K
theorem g_ifY (W : Owk p l e R s m args below meth c Z a0 EL L0 own nm bs ml rt T h SF k j) {cd : ClassFile.Cond} {x : Int32} {o : Int} (hd : decode bs pc = .ok (.ifCond cd o, 3)) (hc : if_icmp.holds cd x 0 = true) (ho : 0 ≤ (pc : Int) + o) (hp : ((pc : Int) + o).toNat = pc') (K : Ogo p l e R s m args below meth c Z a0 EL L0 own nm bs ml rt T (mkF m pc' ls st) Q) : Ogo p l e R s m args below meth c Z a0 EL L0 own nm bs ml rt T (mkF m pc ls (.int x :: st)) Q := by
  exact own_step (fun t q => XS.ifYes W.at W.ex rfl (pc0 := pc) rfl (W.hb hd) rfl (by rw [if0]; exact hc) ho hp q) K
theorem g_ifN (W : Owk p l e R s m args below meth c Z a0 EL L0 own nm bs ml rt T h SF k j) {cd : ClassFile.Cond} {x : Int32} {o : Int} (hd : decode bs pc = .ok (.ifCond cd o, 3)) (hc : if_icmp.holds cd x 0 = false) (hp : pc' = pc + 3) (K : Ogo p l e R s m args below meth c Z a0 EL L0 own nm bs ml rt T (mkF m pc' ls st) Q) : Ogo p l e R s m args below meth c Z a0 EL L0 own nm bs ml rt T (mkF m pc ls (.int x :: st)) Q := by
  subst hp; exact own_step (fun t q => XS.ifNo W.at W.ex rfl (W.hb hd) rfl (by rw [if0]; exact hc) q) K
theorem g_icY (W : Owk p l e R s m args below meth c Z a0 EL L0 own nm bs ml rt T h SF k j) {cd : ClassFile.Cond} {x y : Int32} {o : Int} (hd : decode bs pc = .ok (.if_icmp cd o, 3)) (hc : if_icmp.holds cd x y = true) (ho : 0 ≤ (pc : Int) + o) (hp : ((pc : Int) + o).toNat = pc') (K : Ogo p l e R s m args below meth c Z a0 EL L0 own nm bs ml rt T (mkF m pc' ls st) Q) : Ogo p l e R s m args below meth c Z a0 EL L0 own nm bs ml rt T (mkF m pc ls (.int y :: .int x :: st)) Q := by
  exact own_step (fun t q => XS.icmpYes W.at W.ex rfl (pc0 := pc) rfl (W.hb hd) rfl hc ho hp q) K
theorem g_icN (W : Owk p l e R s m args below meth c Z a0 EL L0 own nm bs ml rt T h SF k j) {cd : ClassFile.Cond} {x y : Int32} {o : Int} (hd : decode bs pc = .ok (.if_icmp cd o, 3)) (hc : if_icmp.holds cd x y = false) (hp : pc' = pc + 3) (K : Ogo p l e R s m args below meth c Z a0 EL L0 own nm bs ml rt T (mkF m pc' ls st) Q) : Ogo p l e R s m args below meth c Z a0 EL L0 own nm bs ml rt T (mkF m pc ls (.int y :: .int x :: st)) Q := by
  subst hp; exact own_step (fun t q => XS.icmpNo W.at W.ex rfl (W.hb hd) rfl hc q) K
theorem g_nullY (W : Owk p l e R s m args below meth c Z a0 EL L0 own nm bs ml rt T h SF k j) {o : Int} (hd : decode bs pc = .ok (.ifnull o, 3)) (ho : 0 ≤ (pc : Int) + o) (hp : ((pc : Int) + o).toNat = pc') (K : Ogo p l e R s m args below meth c Z a0 EL L0 own nm bs ml rt T (mkF m pc' ls st) Q) : Ogo p l e R s m args below meth c Z a0 EL L0 own nm bs ml rt T (mkF m pc ls (.null :: st)) Q := by
  exact own_step (fun t q => XS.ifnullYes W.at W.ex rfl (pc0 := pc) rfl (W.hb hd) rfl ho hp q) K
theorem g_nullN (W : Owk p l e R s m args below meth c Z a0 EL L0 own nm bs ml rt T h SF k j) {b : Addr} {o : Int} (hd : decode bs pc = .ok (.ifnull o, 3)) (hp : pc' = pc + 3) (K : Ogo p l e R s m args below meth c Z a0 EL L0 own nm bs ml rt T (mkF m pc' ls st) Q) : Ogo p l e R s m args below meth c Z a0 EL L0 own nm bs ml rt T (mkF m pc ls (.ref b :: st)) Q := by
  subst hp; exact own_step (fun t q => XS.ifnullNo W.at W.ex rfl (W.hb hd) rfl q) K
theorem g_nnY (W : Owk p l e R s m args below meth c Z a0 EL L0 own nm bs ml rt T h SF k j) {b : Addr} {o : Int} (hd : decode bs pc = .ok (.ifnonnull o, 3)) (ho : 0 ≤ (pc : Int) + o) (hp : ((pc : Int) + o).toNat = pc') (K : Ogo p l e R s m args below meth c Z a0 EL L0 own nm bs ml rt T (mkF m pc' ls st) Q) : Ogo p l e R s m args below meth c Z a0 EL L0 own nm bs ml rt T (mkF m pc ls (.ref b :: st)) Q := by
  exact own_step (fun t q => XT.ifnonnullYes W.at W.ex rfl (pc0 := pc) rfl (W.hb hd) rfl ho hp q) K
theorem g_nnN (W : Owk p l e R s m args below meth c Z a0 EL L0 own nm bs ml rt T h SF k j) {o : Int} (hd : decode bs pc = .ok (.ifnonnull o, 3)) (hp : pc' = pc + 3) (K : Ogo p l e R s m args below meth c Z a0 EL L0 own nm bs ml rt T (mkF m pc' ls st) Q) : Ogo p l e R s m args below meth c Z a0 EL L0 own nm bs ml rt T (mkF m pc ls (.null :: st)) Q := by
  subst hp; exact own_step (fun t q => XT.ifnonnullNo W.at W.ex rfl (W.hb hd) rfl q) K
theorem g_acY (W : Owk p l e R s m args below meth c Z a0 EL L0 own nm bs ml rt T h SF k j) {cd : ClassFile.ACond} {x y : Value} {o : Int} (hd : decode bs pc = .ok (.if_acmp cd o, 3)) (h1 : x.isRef = true) (h2 : y.isRef = true) (hc : XT.acmp cd x y = true) (ho : 0 ≤ (pc : Int) + o) (hp : ((pc : Int) + o).toNat = pc') (K : Ogo p l e R s m args below meth c Z a0 EL L0 own nm bs ml rt T (mkF m pc' ls st) Q) : Ogo p l e R s m args below meth c Z a0 EL L0 own nm bs ml rt T (mkF m pc ls (y :: x :: st)) Q := by
  exact own_step (fun t q => XT.acmpYes W.at W.ex rfl (pc0 := pc) rfl (W.hb hd) rfl h1 h2 hc ho hp q) K
theorem g_acN (W : Owk p l e R s m args below meth c Z a0 EL L0 own nm bs ml rt T h SF k j) {cd : ClassFile.ACond} {x y : Value} {o : Int} (hd : decode bs pc = .ok (.if_acmp cd o, 3)) (h1 : x.isRef = true) (h2 : y.isRef = true) (hc : XT.acmp cd x y = false) (hp : pc' = pc + 3) (K : Ogo p l e R s m args below meth c Z a0 EL L0 own nm bs ml rt T (mkF m pc' ls st) Q) : Ogo p l e R s m args below meth c Z a0 EL L0 own nm bs ml rt T (mkF m pc ls (y :: x :: st)) Q := by
  subst hp; exact own_step (fun t q => XT.acmpNo W.at W.ex rfl (W.hb hd) rfl h1 h2 hc q) K
end Plain
/-! steps that read or write the heap or the tables -/
theorem Owk.fc (W : Owk p l e R s m args below meth c Z a0 EL L0 own nm bs ml rt T h SF k j) {vm0 : Vm} {k0 : Nat} (hS : s.Since vm0 k0) : vm0.findClass own = some m.cls := by rw [hS.1.alike.findClass]; exact W.1.2.2.1
theorem own_same (W : Owk p l e R s m args below meth c Z a0 EL L0 own nm bs ml rt T h SF k j) {g g2 : JFrame}
    (f : ∀ vm0, Stand p l e R (s.setVm vm0) m args below meth c T L0 k j → Z.Warmed39 vm0 → vm0.findClass own = some m.cls → ∃ T', Stand p l e R (s.setVm vm0) m args below meth c T' L0 k j ∧ T'.heap = h ∧ ∀ t, Steps p.tables e below (T'.setTop g2) t → Steps p.tables e below (T.setTop g) t)
    (K : ∀ T', Owk p l e R s m args below meth c Z a0 EL L0 own nm bs ml rt T' h SF k j → Ogo p l e R s m args below meth c Z a0 EL L0 own nm bs ml rt T' g2 Q) : Ogo p l e R s m args below meth c Z a0 EL L0 own nm bs ml rt T g Q := by
  obtain ⟨w1, w2, w3, w4, w5, vm0, k0, X, w6, w7, w8, w9, w10⟩ := id W
  obtain ⟨T', X', e', st⟩ := f vm0 X w6 (W.fc w7)
  exact own_step st (K T' ⟨w1, e', w3, w4, w5, vm0, k0, X', w6, w7, w8, w9, w10⟩)
theorem own_here (W : Owk p l e R s m args below meth c Z a0 EL L0 own nm bs ml rt T h SF k j) {g g2 : JFrame}
    (f : ∀ vm0, Stand p l e R (s.setVm vm0) m args below meth c T L0 k j → Z.Warmed39 vm0 → vm0.findClass own = some m.cls → ∀ t, Steps p.tables e below (T.setTop g2) t → Steps p.tables e below (T.setTop g) t)
    (K : Ogo p l e R s m args below meth c Z a0 EL L0 own nm bs ml rt T g2 Q) : Ogo p l e R s m args below meth c Z a0 EL L0 own nm bs ml rt T g Q := by
  obtain ⟨w1, w2, w3, w4, w5, vm0, k0, X, w6, w7, w8, w9, w10⟩ := id W
  exact own_step (f vm0 X w6 (W.fc w7)) K
theorem own_wr (W : Owk p l e R s m args below meth c Z a0 EL L0 own nm bs ml rt T h SF k j) {g g2 : JFrame} {a : Addr} {sl : Nat} {v : Value} (hS : a ∈ SF) (hL : (⟨a, sl⟩ : Loc) ∈ L0 ∨ s.heap.size ≤ a)
    (f : ∀ vm0, Stand p l e R (s.setVm vm0) m args below meth c T L0 k j → Z.Warmed39 vm0 → vm0.findClass own = some m.cls → ∃ T' h', Stand p l e R (s.setVm vm0) m args below meth c T' (L0 ++ [⟨a, sl⟩]) k j ∧ T'.heap = h' ∧ Wr h h' a sl v ∧ ∀ t, Steps p.tables e below (T'.setTop g2) t → Steps p.tables e below (T.setTop g) t)
    (K : ∀ T' h', Wr h h' a sl v → Owk p l e R s m args below meth c Z a0 EL L0 own nm bs ml rt T' h' SF k j → Ogo p l e R s m args below meth c Z a0 EL L0 own nm bs ml rt T' g2 Q) : Ogo p l e R s m args below meth c Z a0 EL L0 own nm bs ml rt T g Q := by
  obtain ⟨w1, w2, w3, w4, w5, vm0, k0, X, w6, w7, w8, w9, w10⟩ := id W
  obtain ⟨T', h', X', e', Wr', st⟩ := f vm0 X w6 (W.fc w7)
  have X2 := X'.sift (L' := L0) (fun x hx => by
    rcases List.mem_append.mp hx with q | q
    · exact Or.inl q
    · cases List.mem_singleton.mp q; exact hL)
  refine own_step st (K T' h' Wr' ⟨w1, e', fun x hx => by rw [Wr'.size]; exact w3 x hx, w4, w5, vm0, k0, X2, w6, w7, by rw [Wr'.size]; exact w8, w9.trans (CHr.wr Wr' (w10 a hS) w9.1), fun x hx => Safe.wr Wr' (w10 a hS) w9.1 (w10 x hx)⟩)
theorem g_getF (W : Owk p l e R s m args below meth c Z a0 EL L0 own nm bs ml rt T h SF k j) {pc pc' idx : Nat} {ls : Array Slot} {st : List Value} {O n d : String} {a : Addr} {v : Value} (hd : decode bs pc = .ok (.getfield idx, 3)) (hp : pc' = pc + 3) (w : (Cond.fieldLink own idx O n d).before a0 Z = true) (F : Fld Z h a O n d v)
    (K : ∀ T', Owk p l e R s m args below meth c Z a0 EL L0 own nm bs ml rt T' h SF k j → Ogo p l e R s m args below meth c Z a0 EL L0 own nm bs ml rt T' (mkF m pc' ls (v :: st)) Q) : Ogo p l e R s m args below meth c Z a0 EL L0 own nm bs ml rt T (mkF m pc ls (.ref a :: st)) Q := by
  subst hp; exact own_same W (fun vm0 X hZ ho => getF X W.ex hZ ho (host := "") (Or.inl w) Via.refl W.2.1 F (g := mkF m pc ls (.ref a :: st)) rfl rfl (W.hb hd)) K
theorem g_getS (W : Owk p l e R s m args below meth c Z a0 EL L0 own nm bs ml rt T h SF k j) {pc pc' idx : Nat} {ls : Array Slot} {st : List Value} {O n d : String} {v : Value} (hd : decode bs pc = .ok (.getstatic idx, 3)) (hp : pc' = pc + 3) (w : (Cond.fieldLink own idx O n d).before a0 Z = true) (F : Sta Z h O n d v)
    (K : ∀ T', Owk p l e R s m args below meth c Z a0 EL L0 own nm bs ml rt T' h SF k j → Ogo p l e R s m args below meth c Z a0 EL L0 own nm bs ml rt T' (mkF m pc' ls (v :: st)) Q) : Ogo p l e R s m args below meth c Z a0 EL L0 own nm bs ml rt T (mkF m pc ls st) Q := by
  subst hp; exact own_same W (fun vm0 X hZ ho => getS X W.ex hZ ho (host := "") w Via.refl W.2.1 F (g := mkF m pc ls st) rfl (W.hb hd)) K
theorem g_ldcI (W : Owk p l e R s m args below meth c Z a0 EL L0 own nm bs ml rt T h SF k j) {pc pc' idx : Nat} {ls : Array Slot} {st : List Value} {v : Int32} (hd : decode bs pc = .ok (.ldc idx, 2)) (hp : pc' = pc + 2) (w : (Cond.constant own idx v).before a0 Z = true)
    (K : Ogo p l e R s m args below meth c Z a0 EL L0 own nm bs ml rt T (mkF m pc' ls (.int v :: st)) Q) : Ogo p l e R s m args below meth c Z a0 EL L0 own nm bs ml rt T (mkF m pc ls st) Q := by
  subst hp; exact own_here W (fun vm0 X hZ ho => X.ldcInt W.ex ho (mvT (s := s.setVm vm0) hZ w) (g := mkF m pc ls st) rfl (W.hb hd)) K
theorem g_cast (W : Owk p l e R s m args below meth c Z a0 EL L0 own nm bs ml rt T h SF k j) {pc pc' idx : Nat} {ls : Array Slot} {st : List Value} {C : String} {a : Addr} (hd : decode bs pc = .ok (.checkcast idx, 3)) (hp : pc' = pc + 3) (w : (Cond.classLink own idx C).before a0 Z = true) (F : Ins Z h a C true)
    (K : ∀ T', Owk p l e R s m args below meth c Z a0 EL L0 own nm bs ml rt T' h SF k j → Ogo p l e R s m args below meth c Z a0 EL L0 own nm bs ml rt T' (mkF m pc' ls (.ref a :: st)) Q) : Ogo p l e R s m args below meth c Z a0 EL L0 own nm bs ml rt T (mkF m pc ls (.ref a :: st)) Q := by
  subst hp; exact own_same W (fun vm0 X hZ ho => castY X W.ex hZ ho w W.2.1 F (g := mkF m pc ls (.ref a :: st)) rfl rfl (W.hb hd)) K
theorem g_inst (W : Owk p l e R s m args below meth c Z a0 EL L0 own nm bs ml rt T h SF k j) {pc pc' idx : Nat} {ls : Array Slot} {st : List Value} {C : String} {a : Addr} (hd : decode bs pc = .ok (.instanceof idx, 3)) (hp : pc' = pc + 3) (w : (Cond.classLink own idx C).before a0 Z = true) (F : Ins Z h a C true)
    (K : ∀ T', Owk p l e R s m args below meth c Z a0 EL L0 own nm bs ml rt T' h SF k j → Ogo p l e R s m args below meth c Z a0 EL L0 own nm bs ml rt T' (mkF m pc' ls (.int 1 :: st)) Q) : Ogo p l e R s m args below meth c Z a0 EL L0 own nm bs ml rt T (mkF m pc ls (.ref a :: st)) Q := by
  subst hp; exact own_same W (fun vm0 X hZ ho => instY X W.ex hZ ho w W.2.1 F (g := mkF m pc ls (.ref a :: st)) rfl rfl (W.hb hd)) K
theorem g_new (W : Owk p l e R s m args below meth c Z a0 EL L0 own nm bs ml rt T h SF k j) {pc pc' idx n : Nat} {ls : Array Slot} {st : List Value} {C : String} (hd : decode bs pc = .ok (.new idx, 3)) (hp : pc' = pc + 3) (w : (Cond.classLink own idx C).before a0 Z = true) (wi : (Cond.instantiable C n).before a0 Z = true) (wz : (Cond.initialized C).before a0 Z = true) (hc : k + 1 ≤ R.cells) (hl : j + n ≤ R.slots)
    (K : ∀ T' h', Ext h h' → Exa Z h' h.size C → (∀ {O nm d : String} {ty : FieldType}, Laid Z a0 C O nm d → parseFieldDescriptor d = some ty → Fld Z h' h.size O nm d (defaultValue ty)) → Unt h' h.size → Owk p l e R s m args below meth c Z a0 EL L0 own nm bs ml rt T' h' (h.size :: SF) (k + 1) (j + n) → Ogo p l e R s m args below meth c Z a0 EL L0 own nm bs ml rt T' (mkF m pc' ls (.ref h.size :: st)) Q) : Ogo p l e R s m args below meth c Z a0 EL L0 own nm bs ml rt T (mkF m pc ls st) Q := by
  subst hp
  obtain ⟨w1, w2, w3, w4, w5, vm0, k0, X, w6, w7, w8, w9, w10⟩ := id W
  obtain ⟨T', h', X', e', E, A, D, U, st'⟩ := newO X W.ex w6 (W.fc w7) w wi wz w2 (g := mkF m pc ls st) rfl (W.hb hd) hc hl
  refine own_step st' (K T' h' E A D U ⟨w1, e', fun x hx => ?_, hc, hl, vm0, k0, X', w6, w7, Nat.le_trans w8 E.1, w9.trans (CHr.ext E w9.1), fun x hx => ?_⟩)
  · rcases List.mem_cons.mp hx with rfl | q
    · exact A.lt
    · exact Nat.lt_of_lt_of_le (w3 x q) E.1
  · rcases List.mem_cons.mp hx with rfl | q
    · exact (Safe.new (Nat.le_refl _)).ext E w9.1
    · exact (w10 x q).ext E w9.1
theorem g_newP (W : Owk p l e R s m args below meth c Z a0 EL L0 own nm bs ml rt T h SF k j) {pc pc' : Nat} {ls : Array Slot} {st : List Value} {aty : ArrayType} {ty : FieldType} {dv : Value} {n : Int32} {cap : Nat} (hd : decode bs pc = .ok (.newarray aty, 2)) (hp : pc' = pc + 2) (hty : newarray.typeOf aty = ty) (hdv : defaultValue ty = dv) (w : (Cond.arrayClass ty).before a0 Z = true) (hn : ¬ n < 0) (hcap : n.toNatClampNeg ≤ cap) (hb : cap * 8 ≤ 536870912) (hc : k + 1 ≤ R.cells) (hl : j + cap ≤ R.slots)
    (K : ∀ T' h' cA, Ext h h' → Arv Z h' h.size cA ty n [] dv → Owk p l e R s m args below meth c Z a0 EL L0 own nm bs ml rt T' h' (h.size :: SF) (k + 1) (j + cap) → Ogo p l e R s m args below meth c Z a0 EL L0 own nm bs ml rt T' (mkF m pc' ls (.ref h.size :: st)) Q) : Ogo p l e R s m args below meth c Z a0 EL L0 own nm bs ml rt T (mkF m pc ls (.int n :: st)) Q := by
  subst hp hty hdv
  obtain ⟨w1, w2, w3, w4, w5, vm0, k0, X, w6, w7, w8, w9, w10⟩ := id W
  obtain ⟨T', h', cA, X', e', E, A, st'⟩ := newP X W.ex w6 w w2 (g := mkF m pc ls (.int n :: st)) rfl (W.hb hd) rfl hn hcap hb hc hl
  have V := Arv.new A hn
  refine own_step st' (K T' h' cA E V ⟨w1, e', fun x hx => ?_, hc, hl, vm0, k0, X', w6, w7, Nat.le_trans w8 E.1, w9.trans (CHr.ext E w9.1), fun x hx => ?_⟩)
  · rcases List.mem_cons.mp hx with rfl | q
    · exact V.lt
    · exact Nat.lt_of_lt_of_le (w3 x q) E.1
  · rcases List.mem_cons.mp hx with rfl | q
    · exact (Safe.new (Nat.le_refl _)).ext E w9.1
    · exact (w10 x q).ext E w9.1
theorem g_putF (W : Owk p l e R s m args below meth c Z a0 EL L0 own nm bs ml rt T h SF k j) {pc pc' idx kk : Nat} {ls : Array Slot} {st : List Value} {O n d C : String} {ty : FieldType} {a : Addr} {v old : Value} (hd : decode bs pc = .ok (.putfield idx, 3)) (hp : pc' = pc + 3) (w : (Cond.fieldLink own idx O n d).before a0 Z = true) (F : Fld Z h a O n d old) (E : Exa Z h a C) (L : (Cond.lays C O n d).before a0 Z = true ∨ ((Cond.laysFinal C O n d).before a0 Z = true ∧ own = O ∧ nm = "<init>")) (wi : (Cond.instantiable C kk).before a0 Z = true)
    (hty : parseFieldDescriptor d = some ty) (hn : narrow ty v = v) (hf : fits ty v = true) (hS : a ∈ SF) (hL : (⟨a, RoadKit.slotOf Z O n d⟩ : Loc) ∈ L0 ∨ s.heap.size ≤ a)
    (K : ∀ T' h', Wr h h' a (RoadKit.slotOf Z O n d) v → Owk p l e R s m args below meth c Z a0 EL L0 own nm bs ml rt T' h' SF k j → Ogo p l e R s m args below meth c Z a0 EL L0 own nm bs ml rt T' (mkF m pc' ls st) Q) : Ogo p l e R s m args below meth c Z a0 EL L0 own nm bs ml rt T (mkF m pc ls (v :: .ref a :: st)) Q := by
  subst hp
  have hnm := W.1.2.2.2.2.2.2.2
  exact own_wr W hS hL (fun vm0 X hZ ho => putF X W.ex hZ ho (host := "") (Or.inl w) Via.refl W.2.1 F E (L.imp id fun q => ⟨q.1, q.2.1, hnm.trans q.2.2⟩) wi hty hn hf (g := mkF m pc ls (v :: .ref a :: st)) rfl rfl (W.hb hd)) K
theorem own_idx {N jj : Int32} {i : Nat} (hN : ¬ N < 0) (hj : jj = Int32.ofNat i) (hi : i < N.toNatClampNeg) : ¬ jj < 0 ∧ jj.toNatClampNeg = i := by
  have q : N.toNatClampNeg < 2 ^ 31 := (back32 hN).2
  have e : jj.toInt = i := by rw [hj]; exact Int32.toInt_ofNat_of_lt (by omega)
  refine ⟨fun z => ?_, ?_⟩
  · rw [Int32.lt_iff_toInt_lt, e] at z
    have : (0 : Int32).toInt = 0 := rfl
    omega
  · show jj.toInt.toNat = i
    rw [e]; rfl
theorem g_alen (W : Owk p l e R s m args below meth c Z a0 EL L0 own nm bs ml rt T h SF k j) {pc pc' : Nat} {ls : Array Slot} {st : List Value} {a : Addr} {kC : ClassId} {ty : FieldType} {N : Int32} {vs : List Value} {dv : Value} (hd : decode bs pc = .ok (.arraylength, 1)) (hp : pc' = pc + 1) (A : Arv Z h a kC ty N vs dv)
    (K : Ogo p l e R s m args below meth c Z a0 EL L0 own nm bs ml rt T (mkF m pc' ls (.int N :: st)) Q) : Ogo p l e R s m args below meth c Z a0 EL L0 own nm bs ml rt T (mkF m pc ls (.ref a :: st)) Q := by
  subst hp
  obtain ⟨cl, A1, A2, A3, A4, A5, A6⟩ := A
  refine own_here W (fun vm0 X hZ ho t q => X.arraylength W.ex (by rw [W.2.1]; exact A1.1) (State.isArrayOf_alike hZ.alike A1.2.1) (g := mkF m pc ls (.ref a :: st)) rfl rfl (W.hb hd) t ?_) K
  rw [len_of A3 A4]; exact q
theorem g_caload (W : Owk p l e R s m args below meth c Z a0 EL L0 own nm bs ml rt T h SF k j) {pc pc' : Nat} {ls : Array Slot} {st : List Value} {a : Addr} {kC : ClassId} {N jj : Int32} {vs : List Value} {dv v : Value} (hd : decode bs pc = .ok (.caload, 1)) (hp : pc' = pc + 1) (A : Arv Z h a kC .char N vs dv) {i : Nat} (hj : jj = Int32.ofNat i) (hi : i < N.toNatClampNeg) (hv : vs.getD i dv = v)
    (K : Ogo p l e R s m args below meth c Z a0 EL L0 own nm bs ml rt T (mkF m pc' ls (v :: st)) Q) : Ogo p l e R s m args below meth c Z a0 EL L0 own nm bs ml rt T (mkF m pc ls (.int jj :: .ref a :: st)) Q := by
  subst hp
  obtain ⟨cl, A1, A2, A3, A4, A5, A6⟩ := A
  obtain ⟨q1, q2⟩ := own_idx A4 hj hi
  exact own_here W (fun vm0 X hZ ho t q => X.caload W.ex (v := v) (by rw [W.2.1]; exact A1.1) (State.isArrayOf_alike hZ.alike A1.2.1) A1.2.2 (by rw [q2, A3]; intro z; rcases z with z | z; exact q1 z; omega) (by rw [q2, A5 i (by omega), hv]) (g := mkF m pc ls (.int jj :: .ref a :: st)) rfl rfl (W.hb hd) t q) K
theorem g_baload (W : Owk p l e R s m args below meth c Z a0 EL L0 own nm bs ml rt T h SF k j) {pc pc' : Nat} {ls : Array Slot} {st : List Value} {a : Addr} {kC : ClassId} {N jj : Int32} {vs : List Value} {dv v : Value} (hd : decode bs pc = .ok (.baload, 1)) (hp : pc' = pc + 1) (A : Arv Z h a kC .byte N vs dv) {i : Nat} (hj : jj = Int32.ofNat i) (hi : i < N.toNatClampNeg) (hv : vs.getD i dv = v)
    (K : Ogo p l e R s m args below meth c Z a0 EL L0 own nm bs ml rt T (mkF m pc' ls (v :: st)) Q) : Ogo p l e R s m args below meth c Z a0 EL L0 own nm bs ml rt T (mkF m pc ls (.int jj :: .ref a :: st)) Q := by
  subst hp
  obtain ⟨cl, A1, A2, A3, A4, A5, A6⟩ := A
  obtain ⟨q1, q2⟩ := own_idx A4 hj hi
  exact own_here W (fun vm0 X hZ ho t q => X.baloadBytes W.ex (v := v) (by rw [W.2.1]; exact A1.1) (State.isArrayOf_alike hZ.alike A1.2.1) A1.2.2 (by rw [q2, A3]; intro z; rcases z with z | z; exact q1 z; omega) (by rw [q2, A5 i (by omega), hv]) (g := mkF m pc ls (.int jj :: .ref a :: st)) rfl rfl (W.hb hd) t q) K
theorem g_aaload (W : Owk p l e R s m args below meth c Z a0 EL L0 own nm bs ml rt T h SF k j) {pc pc' : Nat} {ls : Array Slot} {st : List Value} {a : Addr} {kC : ClassId} {ty : FieldType} {N jj : Int32} {vs : List Value} {dv v : Value} (hd : decode bs pc = .ok (.aaload, 1)) (hp : pc' = pc + 1) (A : Arv Z h a kC ty N vs dv) (hr : ty.isReference = true) {i : Nat} (hj : jj = Int32.ofNat i) (hi : i < N.toNatClampNeg) (hv : vs.getD i dv = v)
    (K : Ogo p l e R s m args below meth c Z a0 EL L0 own nm bs ml rt T (mkF m pc' ls (v :: st)) Q) : Ogo p l e R s m args below meth c Z a0 EL L0 own nm bs ml rt T (mkF m pc ls (.int jj :: .ref a :: st)) Q := by
  subst hp
  obtain ⟨cl, A1, A2, A3, A4, A5, A6⟩ := A
  obtain ⟨q1, q2⟩ := own_idx A4 hj hi
  exact own_here W (fun vm0 X hZ ho t q => X.aaload W.ex (v := v) (by rw [W.2.1]; exact A1.1) (State.isArrayOf_alike hZ.alike A1.2.1) hr A1.2.2 (by rw [q2, A3]; intro z; rcases z with z | z; exact q1 z; omega) (by rw [q2, A5 i (by omega), hv]) (g := mkF m pc ls (.int jj :: .ref a :: st)) rfl rfl (W.hb hd) t q) K
theorem g_castore (W : Owk p l e R s m args below meth c Z a0 EL L0 own nm bs ml rt T h SF k j) {pc pc' : Nat} {ls : Array Slot} {st : List Value} {a : Addr} {kC : ClassId} {N jj x y : Int32} {vs vs' : List Value} {dv : Value} (hd : decode bs pc = .ok (.castore, 1)) (hp : pc' = pc + 1) (A : Arv Z h a kC .char N vs dv) {i : Nat} (hj : jj = Int32.ofNat i) (hi : i < N.toNatClampNeg) (hi' : i < vs.length) (hy : nar .char x = y) (hv : vs.set i (.int y) = vs') (hS : a ∈ SF) (hL : (⟨a, i⟩ : Loc) ∈ L0 ∨ s.heap.size ≤ a)
    (K : ∀ T' h', Wr h h' a i (.int y) → Arv Z h' a kC .char N vs' dv → Owk p l e R s m args below meth c Z a0 EL L0 own nm bs ml rt T' h' SF k j → Ogo p l e R s m args below meth c Z a0 EL L0 own nm bs ml rt T' (mkF m pc' ls st) Q) : Ogo p l e R s m args below meth c Z a0 EL L0 own nm bs ml rt T (mkF m pc ls (.int x :: .int jj :: .ref a :: st)) Q := by
  subst hp hy hv
  obtain ⟨cl, A1, A2, A3, A4, A5, A6⟩ := A
  obtain ⟨q1, q2⟩ := own_idx A4 hj hi
  refine own_wr W (v := .int (nar .char x)) (sl := i) hS hL (fun vm0 X hZ ho => ?_) (fun T' h' w => K T' h' w (Arv.set (j := jj) A1 A2 A3 A4 A5 A6 (fits_nar_char x) (by rw [q2]; exact w) i q2 hi'))
  have := stC X W.ex hZ W.2.1 A1 (j := jj) (x := x) (by rw [q2, A3]; intro z; rcases z with z | z; exact q1 z; omega) (g := mkF m pc ls (.int x :: .int jj :: .ref a :: st)) rfl rfl (W.hb hd)
  rw [q2] at this; exact this
theorem g_bastore (W : Owk p l e R s m args below meth c Z a0 EL L0 own nm bs ml rt T h SF k j) {pc pc' : Nat} {ls : Array Slot} {st : List Value} {a : Addr} {kC : ClassId} {N jj x y : Int32} {vs vs' : List Value} {dv : Value} (hd : decode bs pc = .ok (.bastore, 1)) (hp : pc' = pc + 1) (A : Arv Z h a kC .byte N vs dv) {i : Nat} (hj : jj = Int32.ofNat i) (hi : i < N.toNatClampNeg) (hi' : i < vs.length) (hy : nar .byte x = y) (hv : vs.set i (.int y) = vs') (hS : a ∈ SF) (hL : (⟨a, i⟩ : Loc) ∈ L0 ∨ s.heap.size ≤ a)
    (K : ∀ T' h', Wr h h' a i (.int y) → Arv Z h' a kC .byte N vs' dv → Owk p l e R s m args below meth c Z a0 EL L0 own nm bs ml rt T' h' SF k j → Ogo p l e R s m args below meth c Z a0 EL L0 own nm bs ml rt T' (mkF m pc' ls st) Q) : Ogo p l e R s m args below meth c Z a0 EL L0 own nm bs ml rt T (mkF m pc ls (.int x :: .int jj :: .ref a :: st)) Q := by
  subst hp hy hv
  obtain ⟨cl, A1, A2, A3, A4, A5, A6⟩ := A
  obtain ⟨q1, q2⟩ := own_idx A4 hj hi
  refine own_wr W (v := .int (nar .byte x)) (sl := i) hS hL (fun vm0 X hZ ho => ?_) (fun T' h' w => K T' h' w (Arv.set (j := jj) A1 A2 A3 A4 A5 A6 (fits_nar_byte x) (by rw [q2]; exact w) i q2 hi'))
  have := stB X W.ex hZ W.2.1 A1 (j := jj) (x := x) (by rw [q2, A3]; intro z; rcases z with z | z; exact q1 z; omega) (g := mkF m pc ls (.int x :: .int jj :: .ref a :: st)) rfl rfl (W.hb hd)
  rw [q2] at this; exact this
theorem g_initO (W : Owk p l e R s m args below meth c Z a0 EL L0 own nm bs ml rt T h SF k j) {pc pc' idx : Nat} {ls : Array Slot} {st : List Value} {a : Addr} (hd : decode bs pc = .ok (.invokespecial idx, 3)) (hp : pc' = pc + 3) (w1 : (Cond.methodLink own idx Lib.objectInit).before a0 Z = true) (w2 : (Cond.instanceMethod Lib.objectInit).before a0 Z = true) (w3 : (Cond.code Lib.objectInit ⟨#[0xb1]⟩ 1 none).before a0 Z = true) (hsz : ls.size = ml) (hf : 1 ≤ R.frames) {w : Nat} (hW : (st.map fun v => v.category).sum ≤ w) (hl : w + 12 ≤ R.locals)
    (K : ∀ T', Owk p l e R s m args below meth c Z a0 EL L0 own nm bs ml rt T' h SF k j → Ogo p l e R s m args below meth c Z a0 EL L0 own nm bs ml rt T' (mkF m pc' ls st) Q) : Ogo p l e R s m args below meth c Z a0 EL L0 own nm bs ml rt T (mkF m pc ls (.ref a :: st)) Q := by
  subst hp; exact own_same W (fun vm0 X hZ ho => initO X W.ex hZ ho w1 w2 w3 W.2.1 (g := mkF m pc ls (.ref a :: st)) rfl (by rw [W.1.2.2.2.2.1]; exact hsz) rfl (W.hb hd) hf (W := w) (by show 2 * 0 + _ ≤ _; omega) hl) K
/-- ldc of a String constant of EL, read -/
theorem g_ldcS (W : Owk p l e R s m args below meth c Z a0 EL L0 own nm bs ml rt T h SF k j) {pc pc' idx : Nat} {ls : Array Slot} {st : List Value} {text : String} {vs : List Value} {z : Int32} {n : Nat} (hd : decode bs pc = .ok (.ldc idx, 2)) (hp : pc' = pc + 2) (w : (Cond.stringLink own idx text).before a0 Z = true) (wS : ∀ a ∈ Bundle.stringAtoms, a.before a0 Z = true) (hmem : (own, idx) ∈ EL)
    (ht : (∀ c ∈ text.toList, c.toNat < 256) ∧ text.toList.map (fun c => Value.int (Jvm.Lit.byteI c.toNat.toUInt16)) = vs) (hz : ¬ z < 0) (hl : z.toNatClampNeg = vs.length) (hn : 4 * text.toList.length ≤ n) (hbig : n ≤ 536870912) (hc : k + 2 ≤ R.cells) (hs : j + (n + 4) ≤ R.slots)
    (K : ∀ T' h' a b kb, Ext h h' → Exa Z h' a "java/lang/String" → Fld Z h' a "java/lang/String" "coder" "B" (.int 0) → Fld Z h' a "java/lang/String" "value" "[B" (.ref b) → Arv Z h' b kb .byte z vs (.int 0) → Owk p l e R s m args below meth c Z a0 EL L0 own nm bs ml rt T' h' SF (k + 2) (j + (n + 4)) → Ogo p l e R s m args below meth c Z a0 EL L0 own nm bs ml rt T' (mkF m pc' ls (.ref a :: st)) Q) : Ogo p l e R s m args below meth c Z a0 EL L0 own nm bs ml rt T (mkF m pc ls st) Q := by
  subst hp
  obtain ⟨w1, w2, w3, w4, w5, vm0, k0, X, w6, w7, w8, w9, w10⟩ := id W
  obtain ⟨a, T', h', k1, b, kb, X', e', E, hS', hk', hW', hf', f1, f2, f3, f4, f5, f6, C, -, -, st'⟩ := ldcCH X W.ex w6 (W.fc w7) w wS w2 w7 w8 w1.2.1 hmem w9.1 ht hz hl (g := mkF m pc ls st) rfl (W.hb hd) hn hbig hc hs
  exact own_step st' (K T' h' a b kb E f1 f2 f3 f4 ⟨w1, e', fun x hx => Nat.lt_of_lt_of_le (w3 x hx) E.1, hc, hs, T'.vm, k1, X', hW', hS', hk', w9.trans C, fun x hx => C.safe (w3 x hx) (w10 x hx)⟩)
theorem Owk.add (W : Owk p l e R s m args below meth c Z a0 EL L0 own nm bs ml rt T h SF k j) {a : Addr} {kC : ClassId} {ty : FieldType} {N : Int32} {vs : List Value} {dv : Value} (A : Arv Z h a kC ty N vs dv) (ht : ty ≠ .byte) : Owk p l e R s m args below meth c Z a0 EL L0 own nm bs ml rt T h (a :: SF) k j := by
  obtain ⟨w1, w2, w3, w4, w5, vm0, k0, X, w6, w7, w8, w9, w10⟩ := W
  refine ⟨w1, w2, fun x hx => ?_, w4, w5, vm0, k0, X, w6, w7, w8, w9, fun x hx => ?_⟩
  · rcases List.mem_cons.mp hx with rfl | q
    · exact A.lt
    · exact w3 x q
  · rcases List.mem_cons.mp hx with rfl | q
    · exact Safe.arv w6.alike A ht
    · exact w10 x q
theorem Owk.addE (W : Owk p l e R s m args below meth c Z a0 EL L0 own nm bs ml rt T h SF k j) {a : Addr} {C : String} (E : Exa Z h a C) (h1 : C ≠ "java/lang/String") (h2 : C ≠ "[B") : Owk p l e R s m args below meth c Z a0 EL L0 own nm bs ml rt T h (a :: SF) k j := by
  obtain ⟨w1, w2, w3, w4, w5, vm0, k0, X, w6, w7, w8, w9, w10⟩ := W
  refine ⟨w1, w2, fun x hx => ?_, w4, w5, vm0, k0, X, w6, w7, w8, w9, fun x hx => ?_⟩
  · rcases List.mem_cons.mp hx with rfl | q
    · exact E.lt
    · exact w3 x q
  · rcases List.mem_cons.mp hx with rfl | q
    · exact Safe.exa w6.alike E h1 h2
    · exact w10 x q
theorem g_instN (W : Owk p l e R s m args below meth c Z a0 EL L0 own nm bs ml rt T h SF k j) {pc pc' idx : Nat} {ls : Array Slot} {st : List Value} (hd : decode bs pc = .ok (.instanceof idx, 3)) (hp : pc' = pc + 3)
    (K : Ogo p l e R s m args below meth c Z a0 EL L0 own nm bs ml rt T (mkF m pc' ls (.int 0 :: st)) Q) : Ogo p l e R s m args below meth c Z a0 EL L0 own nm bs ml rt T (mkF m pc ls (.null :: st)) Q := by
  subst hp; exact own_here W (fun vm0 X hZ ho => X.instanceofNull W.ex (g := mkF m pc ls (.null :: st)) rfl rfl (W.hb hd)) K
theorem g_clone (W : Owk p l e R s m args below meth c Z a0 EL L0 own nm bs ml rt T h SF k j) {pc pc' idx : Nat} {ls : Array Slot} {st : List Value} {ad : String} {a : Addr} {kC : ClassId} {ty : FieldType} {N : Int32} {vs : List Value} {dv : Value} {w cap : Nat} (hd : decode bs pc = .ok (.invokevirtual idx, 3)) (hp : pc' = pc + 3)
    (w1 : (Jvm.Cond.methodLink own idx ⟨ad, "clone", "()Ljava/lang/Object;"⟩).before a0 Z = true) (w2 : (Jvm.Cond.sameMethod ad "java/lang/Object" "clone" "()Ljava/lang/Object;").before a0 Z = true) (w3 : (Jvm.Cond.native ⟨"java/lang/Object", "clone", "()Ljava/lang/Object;"⟩).before a0 Z = true) (w4 : (Jvm.Cond.instanceMethod ⟨"java/lang/Object", "clone", "()Ljava/lang/Object;"⟩).before a0 Z = true) (w5 : (Jvm.Cond.selects ad ⟨ad, "clone", "()Ljava/lang/Object;"⟩ ⟨"java/lang/Object", "clone", "()Ljava/lang/Object;"⟩).before a0 Z = true) (w6 : (Jvm.Cond.castable ad "java/lang/Cloneable").before a0 Z = true)
    (A : Arv Z h a kC ty N vs dv) (E : Exa Z h a ad) (hsz : ls.size = ml) (hf : 1 ≤ R.frames) (hW : (st.map fun v => v.category).sum ≤ w) (hl : w + 14 ≤ R.locals) (hcap : N.toNatClampNeg ≤ cap) (hc : k + 1 ≤ R.cells) (hsl : j + cap ≤ R.slots)
    (K : ∀ T' h', Ext h h' → Arv Z h' h.size kC ty N vs dv → Exa Z h' h.size ad → Owk p l e R s m args below meth c Z a0 EL L0 own nm bs ml rt T' h' SF (k + 1) (j + cap) → Ogo p l e R s m args below meth c Z a0 EL L0 own nm bs ml rt T' (mkF m pc' ls (.ref h.size :: st)) Q) : Ogo p l e R s m args below meth c Z a0 EL L0 own nm bs ml rt T (mkF m pc ls (.ref a :: st)) Q := by
  subst hp
  obtain ⟨x1, x2, x3, x4, x5, vm0, k0, X, x6, x7, x8, x9, x10⟩ := id W
  obtain ⟨T', h', X', e', E', A', F', st'⟩ := cloneH X W.ex x6 (W.fc x7) w1 w2 w3 w4 w5 w6 x2 A.arh E (g := mkF m pc ls (.ref a :: st)) rfl (by rw [x1.2.2.2.2.1]; exact hsz) rfl (W.hb hd) hf (W := w) (by show 2 * 0 + _ ≤ _; omega) hl hcap hc hsl
  exact own_step st' (K T' h' E' A' F' ⟨x1, e', fun x hx => Nat.lt_of_lt_of_le (x3 x hx) E'.1, hc, hsl, vm0, k0, X', x6, x7, Nat.le_trans x8 E'.1, x9.trans (CHr.ext E' x9.1), fun x hx => (x10 x hx).ext E' x9.1⟩)
/-! returns -/
theorem g_ret (W : Owk p l e R s m args below meth c Z a0 EL L0 own nm bs ml rt T h SF k j) {pc : Nat} {ls : Array Slot} {st : List Value} {i : Instr} {t : FieldType} {v : Value} (hd : decode bs pc = .ok (i, 1)) (hr : rt = some t) (hn : narrow t v = v)
    (hi : (i = .ireturn ∧ (t = .int ∨ t = .boolean ∨ t = .byte ∨ t = .char ∨ t = .short) ∧ ∃ z, v = .int z) ∨ (i = .lreturn ∧ t = .long ∧ ∃ z, v = .long z) ∨ (i = .dreturn ∧ t = .double ∧ ∃ z, v = .double z) ∨ (i = .freturn ∧ t = .float ∧ ∃ z, v = .float z) ∨ (i = .areturn ∧ t.isReference = true ∧ v.isRef = true)) (q : Q (some v) h SF) : Ogo p l e R s m args below meth c Z a0 EL L0 own nm bs ml rt T (mkF m pc ls (v :: st)) Q := by
  obtain ⟨w1, w2, w3, w4, w5, vm0, k0, X, w6, w7, w8, w9, w10⟩ := id W
  exact ⟨T, some v, h, SF, k, j, W, (fun z => by rw [hr] at z; cases z), q, fun fs hl => retOut X W.ex (by rw [← hr]; exact w1.2.2.2.2.2.1) hn hi (W.hb hd) hl⟩
theorem g_return (W : Owk p l e R s m args below meth c Z a0 EL L0 own nm bs ml rt T h SF k j) {pc : Nat} {ls : Array Slot} (hd : decode bs pc = .ok (.return_, 1)) (hr : rt = none) (q : Q none h SF) : Ogo p l e R s m args below meth c Z a0 EL L0 own nm bs ml rt T (mkF m pc ls []) Q := by
  obtain ⟨w1, w2, w3, w4, w5, vm0, k0, X, w6, w7, w8, w9, w10⟩ := id W
  exact ⟨T, none, h, SF, k, j, W, fun _ => rfl, q, fun fs hl => X.returnOut W.ex (by rw [← hr]; exact w1.2.2.2.2.2.1) (W.hb hd) hl⟩
theorem g_iret (W : Owk p l e R s m args below meth c Z a0 EL L0 own nm bs ml rt T h SF k j) {pc : Nat} {ls : Array Slot} {st : List Value} {t : FieldType} {z : Int32} (hd : decode bs pc = .ok (.ireturn, 1)) (hr : rt = some t) (ht : t = .int ∨ t = .boolean ∨ t = .byte ∨ t = .char ∨ t = .short) (hn : narrow t (.int z) = .int z) (q : Q (some (.int z)) h SF) : Ogo p l e R s m args below meth c Z a0 EL L0 own nm bs ml rt T (mkF m pc ls (.int z :: st)) Q :=
  g_ret W hd hr hn (Or.inl ⟨rfl, ht, z, rfl⟩) q
theorem g_aret (W : Owk p l e R s m args below meth c Z a0 EL L0 own nm bs ml rt T h SF k j) {pc : Nat} {ls : Array Slot} {st : List Value} {t : FieldType} {v : Value} (hd : decode bs pc = .ok (.areturn, 1)) (hr : rt = some t) (ht : t.isReference = true) (hv : v.isRef = true) (hn : narrow t v = v) (q : Q (some v) h SF) : Ogo p l e R s m args below meth c Z a0 EL L0 own nm bs ml rt T (mkF m pc ls (v :: st)) Q :=
  g_ret W hd hr hn (Or.inr (Or.inr (Or.inr (Or.inr ⟨rfl, ht, hv⟩)))) q
/-! contracts -/
/-- y, called with as' at the heap h (whose cells ySF may be written), comes back with Q; of the old it writes the places yL alone -/
def Ocon (l : Launch) (Z : State) (EL : List (String × Nat)) (y : MethodName) (bs : ByteArray) (ml : Nat) (rt : Option FieldType) (ws : List Jvm.Cond) (rm : Room) (as' : Array Value) (h : Heap) (SF : List Addr) (L0 : List Loc) (Q : Option Value → Heap → List Addr → Prop) : Prop :=
  MetFree l y (head1 (Jvm.Cond.code y bs ml rt :: ws) rm) (fun a U => a = as' ∧ Z.Warmed39 U.vm ∧ U.heap = h ∧ CHv Z EL U.vm h ∧ ∀ x ∈ SF, x < h.size ∧ Safe Z EL U.vm h x) (fun _ _ _ _ _ => True)
    (fun _ U o U' => ∃ v SFo, o = .returned v ∧ Q v U'.heap SFo ∧ (∀ x ∈ SFo, x < U'.heap.size ∧ Safe Z EL U'.vm U'.heap x) ∧ CHr Z EL U.vm U.heap U'.vm U'.heap ∧ ReturnedEndW U o U' L0 rm.cells rm.slots)
theorem own_con {y : MethodName} {ws : List Jvm.Cond} {rm : Room} {as' : Array Value} {h0 : Heap} (hEL : EW Z a0 EL) (hpl : plainFor y = true)
    (go : ∀ (p : Program) (e : Env) (s : State) (m : MethodId) (below : List Frame) (meth : Method) (c : Code) (T : State), s.heap = h0 → Owk p l e rm s m as' below meth c Z a0 EL L0 y.cls y.name bs ml rt T h0 SF 0 0 → Ogo p l e rm s m as' below meth c Z a0 EL L0 y.cls y.name bs ml rt T (entryFrame m as' ml) Q) :
    Ocon l Z EL y bs ml rt ws rm as' h0 SF L0 Q := by
  refine MetFree.of_bodySF hpl hisR ?_
  intro p e s m args below meth c s₁ Bd hml hP hK
  obtain ⟨rfl, hZ, hh, hC, hS⟩ := hP
  have X0 : Stand p l e rm s m args below meth c s₁ [] 0 0 := Stand.of_body Bd
  have hlk : meth.locks = false := BodyLoose.notSynchronized Bd
  have e0 : s₁.heap = h0 := by rw [← hh, Bd.state]; rfl
  have X1 : Stand p l e rm (s.setVm s.vm) m args below meth c s₁ L0 0 0 := X0.sift (fun x hx => by cases hx)
  obtain ⟨T', v, h', SF', k', j', W', hv, hq, st⟩ := go p e s m below meth c s₁ hh ⟨⟨Bd.exec, hEL, findClass_of_methodNamed Bd.named, Bd.bytes, hml, Bd.returns, hlk, (name_of_methodNamed Bd.named Bd.method).1⟩, e0, fun x hx => (hS x hx).1, Nat.zero_le _, Nat.zero_le _, s.vm, s.heap.size, X1, hZ, (State.WarmedH.refl s).since _, by rw [hh]; exact Nat.le_refl _, by rw [hh]; exact CHr.refl hC, fun x hx => (hS x hx).2⟩
  obtain ⟨w1, w2, w3, w4, w5, vm0, k0, X, w6, w7, w8, w9, w10⟩ := W'
  obtain ⟨fs, hl, hrun, hend, hret⟩ := (X.mono w4 w5).leaveW (v := v) w7 (by rw [w2]; exact w8) (fun z => hv (by rw [← z]; exact Bd.returns.symm ▸ rfl)) hlk
  have A := CHv.at X w6 hEL w9.1
  refine ⟨_, _, st fs hl, hrun, hend, v, SF', rfl, by rw [show (T'.setFrames fs).heap = T'.heap from rfl, w2]; exact hq, fun x hx => ?_, ?_, hret⟩
  · show x < T'.heap.size ∧ Safe Z EL T'.vm T'.heap x
    rw [w2]; exact ⟨w3 x hx, A.safe (w3 x hx) (w10 x hx)⟩
  have q : CHr Z EL s.vm s.heap T'.vm h' := w9.trans A
  show CHr Z EL s.vm s.heap T'.vm T'.heap
  rw [w2]; exact q
section Calls
variable {y : MethodName} {yb : ByteArray} {yl : Nat} {yr : Option FieldType} {rm : Room} {as' : Array Value} {ySF : List Addr} {yL : List Loc} {yQ : Option Value → Heap → List Addr → Prop}
theorem own_back {vm0 : Vm} {len w : Nat} (con : Ocon l Z EL y yb yl yr [] rm as' h ySF yL yQ) (hZ : Z.Warmed39 vm0) (wc : (Jvm.Cond.code y yb yl yr).before a0 Z = true) (wz : (Jvm.Cond.initialized y.cls).before a0 Z = true) (hf : rm.frames + 1 ≤ R.frames) (hl : w + (yl + 11) + rm.locals ≤ R.locals) (hEL : EW Z a0 EL) (H : CHv Z EL vm0 h) (hS : ∀ x ∈ ySF, x < h.size ∧ Safe Z EL vm0 h x) :
    BackS l R p e below (s.setVm vm0) args y len w (fun A a => a = as' ∧ A.U.heap = h ∧ A.cells + rm.cells ≤ R.cells ∧ A.slots + rm.slots ≤ R.slots)
      (fun A _ v B => ∃ SFo, yQ v B.U.heap SFo ∧ (∀ x ∈ SFo, x < B.U.heap.size ∧ Safe Z EL B.U.vm B.U.heap x) ∧ B.locs = A.locs ++ yL ∧ B.cells = A.cells + rm.cells ∧ B.slots = A.slots + rm.slots ∧ CHr Z EL vm0 h B.U.vm B.U.heap) :=
  BackS.of_freeW (bytes := yb) (maxL := yl) (ret := yr) (E := fun _ first o t L k n => L = yL ∧ k = rm.cells ∧ n = rm.slots ∧ (∃ v SFo, o = .returned v ∧ yQ v t.heap SFo ∧ ∀ x ∈ SFo, x < t.heap.size ∧ Safe Z EL t.vm t.heap x) ∧ CHr Z EL first.vm first.heap t.vm t.heap) con hf hl
    (fun m meth c A a Y hp => have hU : Z.Warmed39 A.U.vm := wtrans (s := s.setVm vm0) hZ Y.warmed
      ⟨by show (Jvm.Cond.and _ .tt).before a A.U = true; rw [Cond.before_and, mv hU wc]; rfl, mv hU wc, mv hU wz, hp.2.2.1, hp.2.2.2⟩)
    (fun m meth c A a g mk Y hp => ⟨hp.1, wtrans (s := s.setVm vm0) hZ Y.warmed, hp.2.1, (CHv.at Y hZ hEL H).1, fun x hx => ⟨(hS x hx).1, (CHv.at Y hZ hEL H).safe (hS x hx).1 (hS x hx).2⟩⟩) (fun _ _ _ _ _ _ _ _ _ => trivial)
    (fun _ _ _ _ ⟨v, SFo, h1, h2, h2', h3, h4⟩ => ⟨yL, _, _, h4, rfl, rfl, rfl, ⟨v, SFo, h1, h2, h2'⟩, h3⟩)
    (fun m meth c A a g mk v t L k n Y hp _ _ ⟨e0, e1, e2, ⟨v', SFo, e3, e4, e4'⟩, e5⟩ => by
      cases e3; subst e0 e1 e2
      refine ⟨SFo, e4, e4', rfl, rfl, rfl, (CHv.at Y hZ hEL H).trans ?_⟩
      rw [← hp.2.1]; exact e5)
theorem own_after {SFo : List Addr} (W : Owk p l e R s m args below meth c Z a0 EL L0 own nm bs ml rt T h SF k j) {vm0 vm1 : Vm} {k0 : Nat} {B : Pt} (hS0 : s.Since vm0 k0) (hk0 : k0 ≤ h.size) (hZ : Z.Warmed39 vm0) (C0 : CHr Z EL s.vm s.heap vm0 h) (hsf : ∀ x ∈ SF, Safe Z EL vm0 h x) (hL : ∀ q ∈ yL, q ∈ L0 ∨ s.heap.size ≤ q.base) (hcl : k + rm.cells ≤ R.cells) (hsl : j + rm.slots ≤ R.slots)
    (X : Stand p l e R ((s.setVm vm0).setVm B.U.vm) m args below meth c B.U B.locs B.cells B.slots) (hS : (s.setVm vm0).Since B.U.vm B.U.heap.size) (hg : h.size ≤ B.U.heap.size) (hso : ∀ x ∈ SFo, x < B.U.heap.size ∧ Safe Z EL B.U.vm B.U.heap x) (el : B.locs = L0 ++ yL) (ec : B.cells = k + rm.cells) (es : B.slots = j + rm.slots) (C : CHr Z EL vm0 h B.U.vm B.U.heap) : Owk p l e R s m args below meth c Z a0 EL L0 own nm bs ml rt B.U B.U.heap (SFo ++ SF) (k + rm.cells) (j + rm.slots) := by
  rw [el, ec, es] at X
  have X2 := X.sift (L' := L0) (fun x hx => by
    rcases List.mem_append.mp hx with q | q
    · exact Or.inl q
    · exact hL x q)
  have hS2 : s.Since B.U.vm B.U.heap.size := hS0.trans hS (Nat.le_trans hk0 hg)
  exact ⟨W.1, rfl, fun x hx => (List.mem_append.mp hx).elim (fun q => (hso x q).1) (fun q => Nat.lt_of_lt_of_le (W.2.2.1 x q) hg), hcl, hsl, B.U.vm, _, X2, State.Warmed39.trans (t := s.setVm vm0) hZ hS.1, hS2, Nat.le_refl _, C0.trans C, fun x hx => (List.mem_append.mp hx).elim (fun q => (hso x q).2) (fun q => C.safe (W.2.2.1 x q) (hsf x q))⟩
theorem g_static (W : Owk p l e R s m args below meth c Z a0 EL L0 own nm bs ml rt T h SF k j) {pc pc' idx w : Nat} {ls : Array Slot} {argsL st stk : List Value} {ps : List FieldType} (hd : decode bs pc = .ok (.invokestatic idx, 3)) (hp : pc' = pc + 3) (w1 : (Jvm.Cond.methodLink own idx y).before a0 Z = true) (w2 : (Jvm.Cond.static y).before a0 Z = true) (w3 : (Jvm.Cond.initialized y.cls).before a0 Z = true) (w4 : (Jvm.Cond.code y yb yl yr).before a0 Z = true)
    (hy : y.cls ≠ "java/lang/invoke/MethodHandle" ∧ y.cls ≠ "java/lang/invoke/VarHandle") (con : Ocon l Z EL y yb yl yr [] rm as' h ySF yL yQ) (hpd : parseMethodDescriptor y.desc = some ⟨ps, yr⟩) (hln : argsL.length = ps.length) (hstk : stk = argsL.reverse ++ st) (has : as' = argsL.toArray) (hsz : ls.size = ml) (hf : rm.frames + 1 ≤ R.frames) (hW : (st.map fun v => v.category).sum ≤ w) (hlo : w + (yl + 11) + rm.locals ≤ R.locals) (hcl : k + rm.cells ≤ R.cells) (hsl : j + rm.slots ≤ R.slots) (hSF : ∀ x ∈ ySF, x ∈ SF) (hL : ∀ q ∈ yL, q ∈ L0 ∨ s.heap.size ≤ q.base)
    (K : ∀ v T' h' SFo, yQ v h' SFo → Owk p l e R s m args below meth c Z a0 EL L0 own nm bs ml rt T' h' (SFo ++ SF) (k + rm.cells) (j + rm.slots) → Ogo p l e R s m args below meth c Z a0 EL L0 own nm bs ml rt T' (mkF m pc' ls (v.toList ++ st)) Q) : Ogo p l e R s m args below meth c Z a0 EL L0 own nm bs ml rt T (mkF m pc ls stk) Q := by
  subst hp hstk has
  obtain ⟨x1, x2, x3, x4, x5, vm0, k0, X, x6, x7, x8, x9, x10⟩ := id W
  have m1 : (Jvm.Cond.code y yb yl yr).before args (s.setVm vm0) = true := mvT (s := s.setVm vm0) x6 w4
  obtain ⟨mk, hnamed⟩ := Cond.code_named m1
  obtain ⟨methM, cM, hmethM, -, -, -, -, -, -, hsigM⟩ := Cond.code_spec hnamed m1
  obtain ⟨v, vm1, B, -, X', hS', hg', ⟨SFo, q1, q0, q2, q3, q4, q5⟩, come⟩ := X.staticBackS W.ex (W.fc x7) (mvT (s := s.setVm vm0) x6 w1) (mvT (s := s.setVm vm0) x6 w2) (mvT (s := s.setVm vm0) x6 w3) hnamed hmethM hsigM hy
    (own_back (w := w) con x6 w4 w3 hf hlo x1.2.1 x9.1 (fun x hx => ⟨x3 x (hSF x hx), x10 x (hSF x hx)⟩)) (g := mkF m pc ls (argsL.reverse ++ st)) rfl (by rw [x1.2.2.2.2.1]; exact hsz) (Steps.refl _) (lenOf hpd hln) rfl (by show 2 * 0 + _ ≤ _; omega) (W.hb hd) (fun vm1 _ => ⟨rfl, x2, hcl, hsl⟩)
  rw [x2] at hg'
  exact own_step (fun t q => come.trans q) (K v B.U B.U.heap SFo q1 (own_after (vm1 := vm1) W x7 x8 x6 x9 x10 hL hcl hsl X' hS' hg' q0 q2 q3 q4 q5))
theorem g_special (W : Owk p l e R s m args below meth c Z a0 EL L0 own nm bs ml rt T h SF k j) {pc pc' idx w : Nat} {ls : Array Slot} {a : Addr} {argsL st stk : List Value} {ps : List FieldType} (hd : decode bs pc = .ok (.invokespecial idx, 3)) (hp : pc' = pc + 3) (hy1 : y.name = "<init>") (w1 : (Jvm.Cond.methodLink own idx y).before a0 Z = true) (w2 : (Jvm.Cond.instanceMethod y).before a0 Z = true) (w3 : (Jvm.Cond.initialized y.cls).before a0 Z = true) (w4 : (Jvm.Cond.code y yb yl none).before a0 Z = true)
    (hy : y.cls ≠ "java/lang/invoke/MethodHandle" ∧ y.cls ≠ "java/lang/invoke/VarHandle") (con : Ocon l Z EL y yb yl none [] rm as' h ySF yL yQ) (hpd : parseMethodDescriptor y.desc = some ⟨ps, none⟩) (hln : argsL.length = ps.length) (hstk : stk = argsL.reverse ++ .ref a :: st) (has : as' = (.ref a :: argsL).toArray) (hsz : ls.size = ml) (hf : rm.frames + 1 ≤ R.frames) (hW : (st.map fun v => v.category).sum ≤ w) (hlo : w + (yl + 11) + rm.locals ≤ R.locals) (hcl : k + rm.cells ≤ R.cells) (hsl : j + rm.slots ≤ R.slots) (hSF : ∀ x ∈ ySF, x ∈ SF) (hL : ∀ q ∈ yL, q ∈ L0 ∨ s.heap.size ≤ q.base)
    (K : ∀ v T' h' SFo, yQ v h' SFo → Owk p l e R s m args below meth c Z a0 EL L0 own nm bs ml rt T' h' (SFo ++ SF) (k + rm.cells) (j + rm.slots) → Ogo p l e R s m args below meth c Z a0 EL L0 own nm bs ml rt T' (mkF m pc' ls (v.toList ++ st)) Q) : Ogo p l e R s m args below meth c Z a0 EL L0 own nm bs ml rt T (mkF m pc ls stk) Q := by
  subst hp hstk has
  obtain ⟨x1, x2, x3, x4, x5, vm0, k0, X, x6, x7, x8, x9, x10⟩ := id W
  obtain ⟨v, vm1, B, -, X', hS', hg', ⟨SFo, q1, q0, q2, q3, q4, q5⟩, come⟩ := X.specialBackS W.ex hy1 (W.fc x7) (mvT (s := s.setVm vm0) x6 w1) (mvT (s := s.setVm vm0) x6 w2) (mvT (s := s.setVm vm0) x6 w4) hy
    (own_back (w := w) con x6 w4 w3 hf hlo x1.2.1 x9.1 (fun x hx => ⟨x3 x (hSF x hx), x10 x (hSF x hx)⟩)) (g := mkF m pc ls (argsL.reverse ++ .ref a :: st)) rfl (by rw [x1.2.2.2.2.1]; exact hsz) (Steps.refl _) (lenOf hpd hln) rfl (by show 2 * 0 + _ ≤ _; omega) (W.hb hd) (fun vm1 _ => ⟨rfl, x2, hcl, hsl⟩)
  rw [x2] at hg'
  exact own_step (fun t q => come.trans q) (K v B.U B.U.heap SFo q1 (own_after (vm1 := vm1) W x7 x8 x6 x9 x10 hL hcl hsl X' hS' hg' q0 q2 q3 q4 q5))
theorem g_virtual (W : Owk p l e R s m args below meth c Z a0 EL L0 own nm bs ml rt T h SF k j) {pc pc' idx w : Nat} {ls : Array Slot} {a : Addr} {C : String} {yd : MethodName} {argsL st stk : List Value} {ps : List FieldType} (hd : decode bs pc = .ok (.invokevirtual idx, 3)) (hp : pc' = pc + 3) (w1 : (Jvm.Cond.methodLink own idx yd).before a0 Z = true) (w5 : (Jvm.Cond.declares yd).before a0 Z = true) (w7 : (Jvm.Cond.selects yd.cls yd yd).before a0 Z = true) (w6 : (Jvm.Cond.selects C yd y).before a0 Z = true) (w2 : (Jvm.Cond.instanceMethod y).before a0 Z = true) (w3 : (Jvm.Cond.initialized y.cls).before a0 Z = true) (w4 : (Jvm.Cond.code y yb yl yr).before a0 Z = true)
    (hy : yd.cls ≠ "java/lang/invoke/MethodHandle" ∧ yd.cls ≠ "java/lang/invoke/VarHandle") (E : Exa Z h a C) (con : Ocon l Z EL y yb yl yr [] rm as' h ySF yL yQ) (hpd : parseMethodDescriptor yd.desc = some ⟨ps, yr⟩) (hln : argsL.length = ps.length) (hstk : stk = argsL.reverse ++ .ref a :: st) (has : as' = (.ref a :: argsL).toArray) (hsz : ls.size = ml) (hf : rm.frames + 1 ≤ R.frames) (hW : (st.map fun v => v.category).sum ≤ w) (hlo : w + (yl + 11) + rm.locals ≤ R.locals) (hcl : k + rm.cells ≤ R.cells) (hsl : j + rm.slots ≤ R.slots) (hSF : ∀ x ∈ ySF, x ∈ SF) (hL : ∀ q ∈ yL, q ∈ L0 ∨ s.heap.size ≤ q.base)
    (K : ∀ v T' h' SFo, yQ v h' SFo → Owk p l e R s m args below meth c Z a0 EL L0 own nm bs ml rt T' h' (SFo ++ SF) (k + rm.cells) (j + rm.slots) → Ogo p l e R s m args below meth c Z a0 EL L0 own nm bs ml rt T' (mkF m pc' ls (v.toList ++ st)) Q) : Ogo p l e R s m args below meth c Z a0 EL L0 own nm bs ml rt T (mkF m pc ls stk) Q := by
  subst hp hstk has
  obtain ⟨x1, x2, x3, x4, x5, vm0, k0, X, x6, x7, x8, x9, x10⟩ := id W
  obtain ⟨cq, kq, qa, -, qc⟩ := isOf (s := s.setVm vm0) x6 x2 E
  obtain ⟨v, vm1, B, -, X', hS', hg', ⟨SFo, q1, q0, q2, q3, q4, q5⟩, come⟩ := X.virtualBackS W.ex (W.fc x7) (mvT (s := s.setVm vm0) x6 w1) (mvT (s := s.setVm vm0) x6 w5) (notFace_of_selects (args := #[]) (mvT (s := s.setVm vm0) x6 w7)) (mvT (s := s.setVm vm0) x6 w6) (mvT (s := s.setVm vm0) x6 w2) hy
    (own_back (w := w) con x6 w4 w3 hf hlo x1.2.1 x9.1 (fun x hx => ⟨x3 x (hSF x hx), x10 x (hSF x hx)⟩)) qa qc (g := mkF m pc ls (argsL.reverse ++ .ref a :: st)) rfl (by rw [x1.2.2.2.2.1]; exact hsz) (Steps.refl _) (lenOf hpd hln) rfl (by show 2 * 0 + _ ≤ _; omega) (W.hb hd) (fun vm1 _ => ⟨rfl, x2, hcl, hsl⟩)
  rw [x2] at hg'
  exact own_step (fun t q => come.trans q) (K v B.U B.U.heap SFo q1 (own_after (vm1 := vm1) W x7 x8 x6 x9 x10 hL hcl hsl X' hS' hg' q0 q2 q3 q4 q5))
/-- a virtual call paid by a narrow law that leaves the heap as it is -/
theorem g_virtualB (W : Owk p l e R s m args below meth c Z a0 EL L0 own nm bs ml rt T h SF k j) {pc pc' idx w : Nat} {ls : Array Slot} {a : Addr} {C : String} {yd : MethodName} {argsL st stk : List Value} {ps : List FieldType} {yR : Option Value → Prop} (hd : decode bs pc = .ok (.invokevirtual idx, 3)) (hp : pc' = pc + 3) (w1 : (Jvm.Cond.methodLink own idx yd).before a0 Z = true) (w5 : (Jvm.Cond.declares yd).before a0 Z = true) (w7 : (Jvm.Cond.selects yd.cls yd yd).before a0 Z = true) (w6 : (Jvm.Cond.selects C yd y).before a0 Z = true) (w2 : (Jvm.Cond.instanceMethod y).before a0 Z = true)
    (hy : yd.cls ≠ "java/lang/invoke/MethodHandle" ∧ yd.cls ≠ "java/lang/invoke/VarHandle") (E : Exa Z h a C)
    (pay : ∀ vm0, Z.Warmed39 vm0 → Back l R p e below (s.setVm vm0) args y 3 w (fun P a' => a' = as' ∧ P.U.heap = h ∧ P.cells + 0 ≤ R.cells ∧ P.slots + 0 ≤ R.slots) (fun P _ v B => ∃ L, (yR v ∧ L = [] ∧ B.U.heap = h) ∧ B.locs = P.locs ++ L ∧ B.cells = P.cells + 0 ∧ B.slots = P.slots + 0))
    (hpd : parseMethodDescriptor yd.desc = some ⟨ps, yr⟩) (hln : argsL.length = ps.length) (hstk : stk = argsL.reverse ++ .ref a :: st) (has : as' = (.ref a :: argsL).toArray) (hsz : ls.size = ml) (hW : (st.map fun v => v.category).sum ≤ w)
    (K : ∀ v T', yR v → Owk p l e R s m args below meth c Z a0 EL L0 own nm bs ml rt T' h SF k j → Ogo p l e R s m args below meth c Z a0 EL L0 own nm bs ml rt T' (mkF m pc' ls (v.toList ++ st)) Q) : Ogo p l e R s m args below meth c Z a0 EL L0 own nm bs ml rt T (mkF m pc ls stk) Q := by
  subst hp hstk has
  obtain ⟨x1, x2, x3, x4, x5, vm0, k0, X, x6, x7, x8, x9, x10⟩ := id W
  obtain ⟨cq, kq, qa, -, qc⟩ := isOf (s := s.setVm vm0) x6 x2 E
  obtain ⟨v, vm1, ⟨T', L', k', j'⟩, -, X', ⟨L, ⟨q1, q2, q3⟩, q4, q5, q6⟩, come⟩ := X.virtualBack W.ex (W.fc x7) (mvT (s := s.setVm vm0) x6 w1) (mvT (s := s.setVm vm0) x6 w5) (notFace_of_selects (args := #[]) (mvT (s := s.setVm vm0) x6 w7)) (mvT (s := s.setVm vm0) x6 w6) (mvT (s := s.setVm vm0) x6 w2) hy
    (pay vm0 x6) qa qc (g := mkF m pc ls (argsL.reverse ++ .ref a :: st)) rfl (by rw [x1.2.2.2.2.1]; exact hsz) (Steps.refl _) (lenOf hpd hln) rfl (by show 2 * 0 + _ ≤ _; omega) (W.hb hd) (fun vm1 _ => ⟨rfl, x2, x4, x5⟩)
  dsimp only [Pt.U, Pt.locs, Pt.cells, Pt.slots] at X' q3 q4 q5 q6 come
  subst q2 q4 q5 q6
  rw [List.append_nil] at X'
  exact own_step (fun t q => come.trans q) (K v T' q1 ⟨x1, q3, x3, x4, x5, vm0, k0, X', x6, x7, x8, x9, x10⟩)
end Calls
end OwnLayer
/-! plain facts on numbers and lists -/
open StrChars in
theorem own_lo8 (x : Int32) : nar .byte (x.toInt8.toInt32) = lo8 x := by
  show x.toInt8.toInt32.toInt8.toInt32 = x.toInt8.toInt32
  rw [Int8.toInt8_toInt32]
theorem own_lt {i n : Nat} (hn : n < 2 ^ 30) (h : i < n) : Int32.ofNat i < Int32.ofNat n := Jvm.Free.XT.lt32 (by omega) h
theorem own_succ (i : Nat) : Int32.ofNat i + Int32.ofInt 1 = Int32.ofNat (i + 1) := by rw [Int32.ofNat_add]; rfl
theorem own_nn {n : Nat} (hn : n < 2 ^ 30) : ¬ Int32.ofNat n < 0 := Int32.ofNat_not_neg (by omega)
theorem own_clamp {n : Nat} (hn : n < 2 ^ 30) : (Int32.ofNat n).toNatClampNeg = n := Jvm.Free.XT.n32 (by omega)
theorem own_getI (cs : List Int32) (dv : Value) {i : Nat} (h : i < cs.length) : (cs.map Value.int).getD i dv = .int (cs.getD i 0) := by
  simp [List.getD_eq_getElem?_getD, h]
open StrChars in
/-- the byte[] when the first r chars are laid -/
def own_cmp (cs : List Int32) (n r : Nat) : List Value := ((cs.take r).map fun c => Value.int (lo8 c)) ++ List.replicate (n - r) (.int 0)
theorem own_cmp0 (cs : List Int32) (n : Nat) : own_cmp cs n 0 = List.replicate n (.int 0) := by simp [own_cmp]
open StrChars in
theorem own_cmpn (cs : List Int32) {n : Nat} (hn : cs.length = n) : own_cmp cs n n = cs.map fun c => Value.int (lo8 c) := by subst hn; simp [own_cmp]
theorem own_cmplen (cs : List Int32) {n r : Nat} (hn : cs.length = n) (h : r ≤ n) : (own_cmp cs n r).length = n := by simp [own_cmp, hn]; omega
open StrChars in
theorem own_cmpset (cs : List Int32) {n i : Nat} (hn : cs.length = n) (h : i < n) : (own_cmp cs n i).set i (.int (lo8 (cs.getD i 0))) = own_cmp cs n (i + 1) := by
  have hl : i < cs.length := by omega
  have e1 : cs.take (i + 1) = cs.take i ++ [cs.getD i 0] := by
    rw [List.take_succ]; simp [List.getD_eq_getElem?_getD, hl]
  have e2 : ((cs.take i).map fun c => Value.int (lo8 c)).length = i := by simp; omega
  have e3 : List.replicate (n - i) (Value.int 0) = .int 0 :: List.replicate (n - (i + 1)) (.int 0) := by
    rw [show n - i = n - (i + 1) + 1 by omega]; rfl
  unfold own_cmp
  rw [e1, List.map_append, e3, List.set_append_right _ _ (by omega), e2]
  simp
open StrChars.Road in
/-- x is a String of the chars cs -/
def OStr (Z : State) (h : Heap) (x : Addr) (cs : List Int32) : Prop := Exa Z h x "java/lang/String" ∧ (∀ c ∈ cs, ¬ c < 0 ∧ ¬ (65535 : Int32) < c) ∧ ∃ (t : Addr) (kb : ClassId) (cd N2 : Int32) (vs : List Value), Fld Z h x "java/lang/String" "value" "[B" (.ref t) ∧ Fld Z h x "java/lang/String" "coder" "B" (.int cd) ∧ Arv Z h t kb .byte N2 vs (.int 0) ∧ CodA cs cd N2 vs
theorem OStr.ext {Z : State} {h h' : Heap} {x : Addr} {cs : List Int32} (S : OStr Z h x cs) (E : Ext h h') : OStr Z h' x cs := by
  obtain ⟨s1, s2, t, kb, cd, N2, vs, s3, s4, s5, s6⟩ := S
  exact ⟨s1.ext E, s2, t, kb, cd, N2, vs, s3.ext E, s4.ext E, s5.ext E, s6⟩
theorem own_ext_wr {h h1 h2 : Heap} {a : Addr} {sl : Nat} {v : Value} (E : Ext h h1) (W : Wr h1 h2 a sl v) (q : h.size ≤ a) : Ext h h2 := by
  refine ⟨by rw [W.size]; exact E.1, fun x c hx => ?_⟩
  obtain ⟨cb', e1, -, -, -, e2, -⟩ := wr_at W (E.2 x c hx)
  have := (Array.getElem?_eq_some_iff.mp hx).1
  rw [e2 (Nat.ne_of_lt (Nat.lt_of_lt_of_le this q))] at e1; exact e1
theorem own_ext_keep {h h1 h2 : Heap} {ws : List Addr} (E : Ext h h1) (K : Keep h1 h2 ws) (q : ∀ x ∈ ws, h.size ≤ x) : Ext h h2 := by
  refine ⟨Nat.le_trans E.1 K.1, fun x c hx => K.2.1 x c (E.2 x c hx) fun z => ?_⟩
  have := (Array.getElem?_eq_some_iff.mp hx).1
  have := q x z
  omega
theorem own_ext_tr {h h1 h2 : Heap} (E : Ext h h1) (F : Ext h1 h2) : Ext h h2 := ⟨Nat.le_trans E.1 F.1, fun x c hx => F.2 x c (E.2 x c hx)⟩
theorem own_ext_rf (h : Heap) : Ext h h := ⟨Nat.le_refl _, fun _ _ q => q⟩
theorem own_keep_ext {h h' : Heap} {ws : List Addr} (E : Ext h h') : Keep h h' ws := (Keep.refl h ws).ext E
theorem own_pad0 {Z : State} {h : Heap} {a : Addr} {k : ClassId} {ty : FieldType} {N : Int32} {dv : Value} (n : Nat) (A : Arv Z h a k ty N [] dv) : Arv Z h a k ty N (List.replicate n dv) dv := A.pad fun i => by simpa using pad_rep [] dv n i
theorem own_b0 : ∀ c ∈ ([] : List Int32), ¬ c < 0 ∧ ¬ (255 : Int32) < c := fun _ q => nomatch q
theorem own_bc {c : Int32} {cs : List Int32} (q : ¬ c < 0 ∧ ¬ (255 : Int32) < c) (r : ∀ c ∈ cs, ¬ c < 0 ∧ ¬ (255 : Int32) < c) : ∀ x ∈ c :: cs, ¬ x < 0 ∧ ¬ (255 : Int32) < x := fun x hx => by
  rcases List.mem_cons.mp hx with rfl | z
  · exact q
  · exact r x z
theorem own_b255 (w : Int32) : ¬ (w &&& 255) < 0 ∧ ¬ (255 : Int32) < (w &&& 255) := by
  have q := c_and w 255 (by decide)
  have e : (255 : Int32).toInt = 255 := rfl
  have e0 : (0 : Int32).toInt = 0 := rfl
  rw [Int32.lt_iff_toInt_lt, Int32.lt_iff_toInt_lt]
  omega
theorem own_rem (pp : Int32) {n : Nat} (hn : n < 2 ^ 30) (hp : 0 < n) : ∃ i, i < n ∧ (pp &&& 2147483647) % Int32.ofNat n = Int32.ofNat i := by
  have q := (c_and pp 2147483647 (by decide)).1
  have e : (Int32.ofNat n).toInt = n := Int32.toInt_ofNat_of_lt (by omega)
  have r := (c_iremV (pp &&& 2147483647) (Int32.ofNat n)).1 q (by omega)
  refine ⟨((pp &&& 2147483647) % Int32.ofNat n).toInt.toNat, by omega, Int32.toInt_inj.mp ?_⟩
  rw [Int32.toInt_ofNat_of_lt (by omega)]
  omega
theorem own_bset (cs : List Int32) (i : Nat) {v : Int32} (hv : ¬ v < 0 ∧ ¬ (255 : Int32) < v) (h : ∀ c ∈ cs, ¬ c < 0 ∧ ¬ (255 : Int32) < c) : ∀ c ∈ cs.set i v, ¬ c < 0 ∧ ¬ (255 : Int32) < c := fun c hc => by
  rcases List.mem_or_eq_of_mem_set hc with z | rfl
  · exact h c z
  · exact hv
theorem own_dbl {i : Nat} (h : i < 2 ^ 29) : Int32.ofNat i <<< ((1 : Int32) &&& 31) = Int32.ofNat (2 * i) := by
  have q := c_ishl (Int32.ofNat i) 1 1 (by decide)
  have e1 : (Int32.ofNat i).toInt = i := Int32.toInt_ofNat_of_lt (by omega)
  have e2 : (Int32.ofNat (2 * i)).toInt = ((2 * i : Nat) : Int) := Int32.toInt_ofNat_of_lt (by omega)
  have r := rng32 (Int32.ofNat i <<< ((1 : Int32) &&& 31))
  apply Int32.toInt_inj.mp
  rw [e2]
  rw [e1] at q
  omega
theorem own_b16 {cs : List Int32} (h : ∀ c ∈ cs, ¬ c < 0 ∧ ¬ (255 : Int32) < c) : ∀ c ∈ cs, ¬ c < 0 ∧ ¬ (65535 : Int32) < c := fun c hc => ⟨(h c hc).1, fun q => (h c hc).2 (Int32.lt_trans (by decide) q)⟩
theorem own_all {cs : List Int32} {n : Nat} (hn : cs.length = n) (h : ∀ i, i < n → ¬ (255 : Int32) < cs.getD i 0) : ∀ c ∈ cs, ¬ (255 : Int32) < c := fun c hc => by
  obtain ⟨i, hi, rfl⟩ := List.getElem_of_mem hc
  have q := h i (by omega)
  have e : cs.getD i 0 = cs[i] := by simp [List.getD_eq_getElem?_getD, hi]
  rw [e] at q; exact q
open StrChars StrChars.Road in
theorem own_wlen : ∀ cs : List Int32, (wideBytes cs).length = 2 * cs.length
  | [] => rfl
  | c :: cs => by simp [wideBytes, own_wlen cs]; omega
open StrChars StrChars.Road in
/-- the byte[] when the first i chars are laid, two bytes each -/
def own_wide (cs : List Int32) (n i : Nat) : List Value := wideBytes (cs.take i) ++ List.replicate (2 * (n - i)) (.int 0)
theorem own_wide0 (cs : List Int32) (n : Nat) : own_wide cs n 0 = List.replicate (2 * n) (.int 0) := by simp [own_wide, StrChars.Road.wideBytes]
theorem own_widen (cs : List Int32) {n : Nat} (hn : cs.length = n) : own_wide cs n n = StrChars.Road.wideBytes cs := by subst hn; simp [own_wide]
theorem own_widelen (cs : List Int32) {n i : Nat} (hn : cs.length = n) (h : i ≤ n) : (own_wide cs n i).length = 2 * n := by simp [own_wide, own_wlen]; omega
open StrChars StrChars.Road in
theorem own_wapp : ∀ (cs : List Int32) (c : Int32), wideBytes (cs ++ [c]) = wideBytes cs ++ [.int (lo8 c), .int (hi8 c)]
  | [], c => rfl
  | d :: cs, c => by simp [wideBytes, own_wapp cs c]
open StrChars StrChars.Road in
theorem own_wideset (cs : List Int32) {n i : Nat} (hn : cs.length = n) (h : i < n) : ((own_wide cs n i).set (2 * i) (.int (lo8 (cs.getD i 0)))).set (2 * i + 1) (.int (hi8 (cs.getD i 0))) = own_wide cs n (i + 1) := by
  have hl : i < cs.length := by omega
  have e1 : cs.take (i + 1) = cs.take i ++ [cs.getD i 0] := by
    rw [List.take_succ]; simp [List.getD_eq_getElem?_getD, hl]
  have e2 : (wideBytes (cs.take i)).length = 2 * i := by rw [own_wlen, List.length_take]; omega
  have e3 : List.replicate (2 * (n - i)) (Value.int 0) = .int 0 :: .int 0 :: List.replicate (2 * (n - (i + 1))) (.int 0) := by
    rw [show 2 * (n - i) = 2 * (n - (i + 1)) + 1 + 1 by omega]; rfl
  unfold own_wide
  rw [e1, own_wapp, e3, List.set_append_right _ _ (by omega), List.set_append_right _ _ (by omega), e2]
  simp
theorem own_neg {n : Nat} (h0 : 0 < n) (h : n < 2 ^ 29) : (XT.ushr (Int32.ofNat n - Int32.ofNat (2 * n)) 31).toInt8.toInt32 = 1 := by
  have e1 : (Int32.ofNat n).toInt = n := Int32.toInt_ofNat_of_lt (by omega)
  have e2 : (Int32.ofNat (2 * n)).toInt = ((2 * n : Nat) : Int) := Int32.toInt_ofNat_of_lt (by omega)
  have q := c_isub (Int32.ofNat n) (Int32.ofNat (2 * n))
  have r := rng32 (Int32.ofNat n - Int32.ofNat (2 * n))
  have u := c_iushr (Int32.ofNat n - Int32.ofNat (2 * n)) 31 31 (by decide) (by decide)
  have e3 : XT.ushr (Int32.ofNat n - Int32.ofNat (2 * n)) 31 = 1 := by
    apply Int32.toInt_inj.mp
    show ((Int32.ofNat n - Int32.ofNat (2 * n)).toUInt32 >>> ((31 : Int32) &&& 31).toUInt32).toInt32.toInt = 1
    rw [u]
    rw [e1, e2] at q
    omega
  rw [e3]; rfl
theorem own_mem {cs : List Int32} {i : Nat} (h : i < cs.length) : cs.getD i 0 ∈ cs := by
  have e : cs.getD i 0 = cs[i] := by simp [List.getD_eq_getElem?_getD, h]
  rw [e]; exact List.getElem_mem _
theorem own_nlt {i n : Nat} (hi : i < 2 ^ 30) (h : n ≤ i) : ¬ Int32.ofNat i < Int32.ofNat n := fun q => by
  rw [Int32.lt_iff_toInt_lt, Int32.toInt_ofNat_of_lt (by omega), Int32.toInt_ofNat_of_lt (by omega)] at q
  omega
theorem own_allg {bl : List Int32} (h : ∀ i, i < bl.length → ¬ bl.getD i 0 < (0 : Int32)) : ∀ b ∈ bl, ¬ b < (0 : Int32) := fun c hc => by
  obtain ⟨i, hi, rfl⟩ := List.getElem_of_mem hc
  have q := h i hi
  have e : bl.getD i 0 = bl[i] := by simp [List.getD_eq_getElem?_getD, hi]
  rw [e] at q; exact q
theorem own_inj {a b : Nat} (ha : a < 2 ^ 30) (hb : b < 2 ^ 30) (h : Int32.ofNat a = Int32.ofNat b) : a = b := by
  have q := congrArg Int32.toInt h
  rw [Int32.toInt_ofNat_of_lt (by omega), Int32.toInt_ofNat_of_lt (by omega)] at q
  omega
open StrChars StrChars.Road in
theorem own_wide_lo (cs : List Int32) {i : Nat} (h : i < cs.length) : (wideBytes cs).getD (2 * i) (.int 0) = .int (lo8 (cs.getD i 0)) := wide_lo _ cs i h
open StrChars StrChars.Road in
theorem own_wide_hi (cs : List Int32) {i : Nat} (h : i < cs.length) : (wideBytes cs).getD (2 * i + 1) (.int 0) = .int (hi8 (cs.getD i 0)) := wide_hi _ cs i h
/-! facts of the start, out of the sheet's words -/
theorem own_len {Z : State} {args : Array Value} {t : Term} {a : Addr} {cl : Cell} {ty : FieldType} {N : Int32} (ev : t.eval args Z none [] Z = some (.ref a)) (A : Arr Z Z.heap a cl ty) (h : (Jvm.Cond.eq (.length t) (.int N)).value args Z none Z [] = some true) : cl.slots.size < 2 ^ 31 ∧ cl.slots.size.toInt32 = N := by
  have e := eqv_i (Term.int_eval N) h
  have ha : Z.arrayAt? a = some cl := A.fin (Vm.Alike.refl _)
  by_cases q : cl.slots.size < 2 ^ 31
  · rw [len_f ev ha q] at e
    exact ⟨q, Value.int.inj (Option.some.inj e)⟩
  · simp [Term.eval, ev, ha] at e
    exact absurd e.1 q
theorem own_el {Z : State} {args : Array Value} {t : Term} {a : Addr} {cl : Cell} {j b : Int32} (ev : t.eval args Z none [] Z = some (.ref a)) (hc : Z.heap[a]? = some cl) (h : (Jvm.Cond.eq (.elem t (.int j)) (.int b)).value args Z none Z [] = some true) : cl.slots[j.toNatClampNeg]? = some (.int b) := (elem_in (eqv_i (Term.int_eval b) h) ev (Term.int_eval j) hc).2
theorem own_eqR {Z : State} {args : Array Value} {X F : Term} {y : Addr} (hF : F.eval args Z none [] Z = some (.ref y)) (h : (Jvm.Cond.eq X F).value args Z none Z [] = some true) : X.eval args Z none [] Z = some (.ref y) := by
  obtain ⟨x, y', e1, e2, k1, k2⟩ := cmp_v (Or.inl h)
  cases hF.symm.trans e2
  have hx : x.isRef = true := by cases x <;> simp_all [Kin, Value.isRef]
  have q := gotT (eq_R e1 hF hx rfl) h
  rw [e1, q]
theorem own_elR {Z : State} {args : Array Value} {t F : Term} {a y : Addr} {cl : Cell} {j : Int32} (ev : t.eval args Z none [] Z = some (.ref a)) (hc : Z.heap[a]? = some cl) (hF : F.eval args Z none [] Z = some (.ref y)) (h : (Jvm.Cond.eq (.elem t (.int j)) F).value args Z none Z [] = some true) : cl.slots[j.toNatClampNeg]? = some (.ref y) := (elem_in (own_eqR hF h) ev (Term.int_eval j) hc).2
theorem own_strZ {Z : State} {args : Array Value} {t : Term} {q : Addr} {N : Int32} {cs : List Int32} (hf : Fit Z) (eq : t.eval args Z none [] Z = some (.ref q)) (cx : (Jvm.Cond.exactly t "java/lang/String").value args Z none Z [] = some true) (cc : (Jvm.Cond.eq (.field t "java/lang/String" "coder" "B") (.int 0)).value args Z none Z [] = some true) (ca : (Jvm.Cond.arrayOf (.field t "java/lang/String" "value" "[B") .byte).value args Z none Z [] = some true) (cl : (Jvm.Cond.eq (.length (.field t "java/lang/String" "value" "[B")) (.int N)).value args Z none Z [] = some true)
    (hN : ¬ N < 0) (hl : N.toNatClampNeg = cs.length) (hN' : N = Int32.ofNat cs.length) (hb : ∀ c ∈ cs, ¬ c < 0 ∧ ¬ (255 : Int32) < c) (H : ∀ (b : Addr) (cell : Cell), (Term.field t "java/lang/String" "value" "[B").eval args Z none [] Z = some (.ref b) → Z.heap[b]? = some cell → HasL cell 0 (cs.map fun c => Value.int (StrChars.lo8 c))) : OStr Z Z.heap q cs := by
  obtain ⟨b, eb⟩ := arr_v ca
  obtain ⟨cell, A⟩ := Arr.start eb ca
  obtain ⟨l1, l2⟩ := own_len eb A cl
  have ec := eqv_i (Term.int_eval 0) cc
  refine ⟨Exa.start eq cx, fun c hc => ⟨(hb c hc).1, fun z => (hb c hc).2 (Int32.lt_trans (by decide) z)⟩, b, cell.cls, 0, N, _, Fld.start ((fld_at eq).symm.trans eb), Fld.start ((fld_at eq).symm.trans ec), Arv.start hf A l1 l2 hN (by rw [List.length_map]; exact hl) (H b cell eb A.1), Or.inl ⟨rfl, hN', rfl, fun c hc => (hb c hc).2⟩⟩
theorem own_c0 {P : Jvm.Cond → Prop} : ∀ a ∈ ([] : List Jvm.Cond), P a := fun _ q => nomatch q
theorem own_cc {P : Jvm.Cond → Prop} {c : Jvm.Cond} {L : List Jvm.Cond} (q : P c) (r : ∀ a ∈ L, P a) : ∀ a ∈ c :: L, P a := fun a ha => by
  rcases List.mem_cons.mp ha with rfl | z
  · exact q
  · exact r a z
def own_text (k : Nat) : String := match tables_1[k]? with | some (.stringLink _ _ t) => t | _ => ""
theorem own_str {Z : State} {a0 : Array Value} (hw : ∀ d ∈ tables_1, d.before a0 Z = true) : ∀ a ∈ Bundle.stringAtoms, a.before a0 Z = true :=
  own_cc (hw _ (List.mem_of_getElem? (i := 5) rfl)) (own_cc (hw _ (List.mem_of_getElem? (i := 4) rfl)) (own_cc (hw _ (List.mem_of_getElem? (i := 1) rfl)) (own_cc (hw _ (List.mem_of_getElem? (i := 30) rfl)) (own_cc (hw _ (List.mem_of_getElem? (i := 28) rfl)) (own_cc (hw _ (List.mem_of_getElem? (i := 143) rfl)) (own_cc (hw _ (List.mem_of_getElem? (i := 144) rfl)) (own_c0)))))))
theorem dS0_0 : decode jdk_52_method_21_code 0 = .ok (.iconst 0, 1) := by decide +kernel
theorem dS0_1 : decode jdk_52_method_21_code 1 = .ok (.istore 5, 2) := by decide +kernel
theorem dS0_3 : decode jdk_52_method_21_code 3 = .ok (.iload 5, 2) := by decide +kernel
theorem dS0_5 : decode jdk_52_method_21_code 5 = .ok (.iload 4, 2) := by decide +kernel
theorem dS0_7 : decode jdk_52_method_21_code 7 = .ok (.if_icmp .ge 37, 3) := by decide +kernel
theorem dS0_10 : decode jdk_52_method_21_code 10 = .ok (.aload_n 0, 1) := by decide +kernel
theorem dS0_11 : decode jdk_52_method_21_code 11 = .ok (.iload_n 1, 1) := by decide +kernel
theorem dS0_12 : decode jdk_52_method_21_code 12 = .ok (.caload, 1) := by decide +kernel
theorem dS0_13 : decode jdk_52_method_21_code 13 = .ok (.istore 6, 2) := by decide +kernel
theorem dS0_15 : decode jdk_52_method_21_code 15 = .ok (.iload 6, 2) := by decide +kernel
theorem dS0_17 : decode jdk_52_method_21_code 17 = .ok (.sipush 255, 3) := by decide +kernel
theorem dS0_20 : decode jdk_52_method_21_code 20 = .ok (.if_icmp .le 6, 3) := by decide +kernel
theorem dS0_23 : decode jdk_52_method_21_code 23 = .ok (.iload 5, 2) := by decide +kernel
theorem dS0_25 : decode jdk_52_method_21_code 25 = .ok (.ireturn, 1) := by decide +kernel
theorem dS0_26 : decode jdk_52_method_21_code 26 = .ok (.aload_n 2, 1) := by decide +kernel
theorem dS0_27 : decode jdk_52_method_21_code 27 = .ok (.iload_n 3, 1) := by decide +kernel
theorem dS0_28 : decode jdk_52_method_21_code 28 = .ok (.iload 6, 2) := by decide +kernel
theorem dS0_30 : decode jdk_52_method_21_code 30 = .ok (.i2b, 1) := by decide +kernel
theorem dS0_31 : decode jdk_52_method_21_code 31 = .ok (.bastore, 1) := by decide +kernel
theorem dS0_32 : decode jdk_52_method_21_code 32 = .ok (.iinc 1 1, 3) := by decide +kernel
theorem dS0_35 : decode jdk_52_method_21_code 35 = .ok (.iinc 3 1, 3) := by decide +kernel
theorem dS0_38 : decode jdk_52_method_21_code 38 = .ok (.iinc 5 1, 3) := by decide +kernel
theorem dS0_41 : decode jdk_52_method_21_code 41 = .ok (.goto (-38), 3) := by decide +kernel
theorem dS0_44 : decode jdk_52_method_21_code 44 = .ok (.iload 4, 2) := by decide +kernel
theorem dS0_46 : decode jdk_52_method_21_code 46 = .ok (.ireturn, 1) := by decide +kernel
theorem dS1_0 : decode jdk_52_method_16_code 0 = .ok (.iload_n 2, 1) := by decide +kernel
theorem dS1_1 : decode jdk_52_method_16_code 1 = .ok (.newarray .byte, 2) := by decide +kernel
theorem dS1_3 : decode jdk_52_method_16_code 3 = .ok (.astore_n 3, 1) := by decide +kernel
theorem dS1_4 : decode jdk_52_method_16_code 4 = .ok (.aload_n 0, 1) := by decide +kernel
theorem dS1_5 : decode jdk_52_method_16_code 5 = .ok (.iload_n 1, 1) := by decide +kernel
theorem dS1_6 : decode jdk_52_method_16_code 6 = .ok (.aload_n 3, 1) := by decide +kernel
theorem dS1_7 : decode jdk_52_method_16_code 7 = .ok (.iconst 0, 1) := by decide +kernel
theorem dS1_8 : decode jdk_52_method_16_code 8 = .ok (.iload_n 2, 1) := by decide +kernel
theorem dS1_9 : decode jdk_52_method_16_code 9 = .ok (.invokestatic 115, 3) := by decide +kernel
theorem dS1_12 : decode jdk_52_method_16_code 12 = .ok (.istore 4, 2) := by decide +kernel
theorem dS1_14 : decode jdk_52_method_16_code 14 = .ok (.iload 4, 2) := by decide +kernel
theorem dS1_16 : decode jdk_52_method_16_code 16 = .ok (.iload_n 2, 1) := by decide +kernel
theorem dS1_17 : decode jdk_52_method_16_code 17 = .ok (.if_icmp .eq 40, 3) := by decide +kernel
theorem dS1_20 : decode jdk_52_method_16_code 20 = .ok (.aload_n 0, 1) := by decide +kernel
theorem dS1_21 : decode jdk_52_method_16_code 21 = .ok (.iload_n 1, 1) := by decide +kernel
theorem dS1_22 : decode jdk_52_method_16_code 22 = .ok (.iload_n 2, 1) := by decide +kernel
theorem dS1_23 : decode jdk_52_method_16_code 23 = .ok (.invokestatic 119, 3) := by decide +kernel
theorem dS1_26 : decode jdk_52_method_16_code 26 = .ok (.astore 5, 2) := by decide +kernel
theorem dS1_28 : decode jdk_52_method_16_code 28 = .ok (.aload 5, 2) := by decide +kernel
theorem dS1_30 : decode jdk_52_method_16_code 30 = .ok (.iload 4, 2) := by decide +kernel
theorem dS1_32 : decode jdk_52_method_16_code 32 = .ok (.invokestatic 71, 3) := by decide +kernel
theorem dS1_35 : decode jdk_52_method_16_code 35 = .ok (.sipush 255, 3) := by decide +kernel
theorem dS1_38 : decode jdk_52_method_16_code 38 = .ok (.if_icmp .gt 16, 3) := by decide +kernel
theorem dS1_41 : decode jdk_52_method_16_code 41 = .ok (.aload 5, 2) := by decide +kernel
theorem dS1_43 : decode jdk_52_method_16_code 43 = .ok (.iconst 0, 1) := by decide +kernel
theorem dS1_44 : decode jdk_52_method_16_code 44 = .ok (.aload_n 3, 1) := by decide +kernel
theorem dS1_45 : decode jdk_52_method_16_code 45 = .ok (.iconst 0, 1) := by decide +kernel
theorem dS1_46 : decode jdk_52_method_16_code 46 = .ok (.iload_n 2, 1) := by decide +kernel
theorem dS1_47 : decode jdk_52_method_16_code 47 = .ok (.invokestatic 123, 3) := by decide +kernel
theorem dS1_50 : decode jdk_52_method_16_code 50 = .ok (.iload_n 2, 1) := by decide +kernel
theorem dS1_51 : decode jdk_52_method_16_code 51 = .ok (.if_icmp .eq 6, 3) := by decide +kernel
theorem dS1_54 : decode jdk_52_method_16_code 54 = .ok (.aload 5, 2) := by decide +kernel
theorem dS1_56 : decode jdk_52_method_16_code 56 = .ok (.areturn, 1) := by decide +kernel
theorem dS1_57 : decode jdk_52_method_16_code 57 = .ok (.aload_n 3, 1) := by decide +kernel
theorem dS1_58 : decode jdk_52_method_16_code 58 = .ok (.areturn, 1) := by decide +kernel
theorem dS2_0 : decode jdk_52_method_15_code 0 = .ok (.iload_n 1, 1) := by decide +kernel
theorem dS2_1 : decode jdk_52_method_15_code 1 = .ok (.aload_n 0, 1) := by decide +kernel
theorem dS2_2 : decode jdk_52_method_15_code 2 = .ok (.arraylength, 1) := by decide +kernel
theorem dS2_3 : decode jdk_52_method_15_code 3 = .ok (.isub, 1) := by decide +kernel
theorem dS2_4 : decode jdk_52_method_15_code 4 = .ok (.bipush 31, 2) := by decide +kernel
theorem dS2_6 : decode jdk_52_method_15_code 6 = .ok (.iushr, 1) := by decide +kernel
theorem dS2_7 : decode jdk_52_method_15_code 7 = .ok (.i2b, 1) := by decide +kernel
theorem dS2_8 : decode jdk_52_method_15_code 8 = .ok (.ireturn, 1) := by decide +kernel
theorem dS3_0 : decode jdk_42_method_149_code 0 = .ok (.aload_n 0, 1) := by decide +kernel
theorem dS3_1 : decode jdk_42_method_149_code 1 = .ok (.invokespecial 1, 3) := by decide +kernel
theorem dS3_4 : decode jdk_42_method_149_code 4 = .ok (.iload_n 3, 1) := by decide +kernel
theorem dS3_5 : decode jdk_42_method_149_code 5 = .ok (.ifCond .ne 22, 3) := by decide +kernel
theorem dS3_8 : decode jdk_42_method_149_code 8 = .ok (.aload_n 0, 1) := by decide +kernel
theorem dS3_9 : decode jdk_42_method_149_code 9 = .ok (.ldc 7, 2) := by decide +kernel
theorem dS3_11 : decode jdk_42_method_149_code 11 = .ok (.getfield 9, 3) := by decide +kernel
theorem dS3_14 : decode jdk_42_method_149_code 14 = .ok (.putfield 9, 3) := by decide +kernel
theorem dS3_17 : decode jdk_42_method_149_code 17 = .ok (.aload_n 0, 1) := by decide +kernel
theorem dS3_18 : decode jdk_42_method_149_code 18 = .ok (.ldc 7, 2) := by decide +kernel
theorem dS3_20 : decode jdk_42_method_149_code 20 = .ok (.getfield 15, 3) := by decide +kernel
theorem dS3_23 : decode jdk_42_method_149_code 23 = .ok (.putfield 15, 3) := by decide +kernel
theorem dS3_26 : decode jdk_42_method_149_code 26 = .ok (.return_, 1) := by decide +kernel
theorem dS3_27 : decode jdk_42_method_149_code 27 = .ok (.getstatic 38, 3) := by decide +kernel
theorem dS3_30 : decode jdk_42_method_149_code 30 = .ok (.ifCond .eq 28, 3) := by decide +kernel
theorem dS3_33 : decode jdk_42_method_149_code 33 = .ok (.aload_n 1, 1) := by decide +kernel
theorem dS3_34 : decode jdk_42_method_149_code 34 = .ok (.iload_n 2, 1) := by decide +kernel
theorem dS3_35 : decode jdk_42_method_149_code 35 = .ok (.iload_n 3, 1) := by decide +kernel
theorem dS3_36 : decode jdk_42_method_149_code 36 = .ok (.invokestatic 177, 3) := by decide +kernel
theorem dS3_39 : decode jdk_42_method_149_code 39 = .ok (.astore 5, 2) := by decide +kernel
theorem dS3_41 : decode jdk_42_method_149_code 41 = .ok (.aload_n 0, 1) := by decide +kernel
theorem dS3_42 : decode jdk_42_method_149_code 42 = .ok (.aload 5, 2) := by decide +kernel
theorem dS3_44 : decode jdk_42_method_149_code 44 = .ok (.iload_n 3, 1) := by decide +kernel
theorem dS3_45 : decode jdk_42_method_149_code 45 = .ok (.invokestatic 47, 3) := by decide +kernel
theorem dS3_48 : decode jdk_42_method_149_code 48 = .ok (.putfield 15, 3) := by decide +kernel
theorem dS3_51 : decode jdk_42_method_149_code 51 = .ok (.aload_n 0, 1) := by decide +kernel
theorem dS3_52 : decode jdk_42_method_149_code 52 = .ok (.aload 5, 2) := by decide +kernel
theorem dS3_54 : decode jdk_42_method_149_code 54 = .ok (.putfield 9, 3) := by decide +kernel
theorem dS3_57 : decode jdk_42_method_149_code 57 = .ok (.return_, 1) := by decide +kernel
theorem dS3_58 : decode jdk_42_method_149_code 58 = .ok (.aload_n 0, 1) := by decide +kernel
theorem dS3_59 : decode jdk_42_method_149_code 59 = .ok (.iconst 1, 1) := by decide +kernel
theorem dS3_60 : decode jdk_42_method_149_code 60 = .ok (.putfield 15, 3) := by decide +kernel
theorem dS3_63 : decode jdk_42_method_149_code 63 = .ok (.aload_n 0, 1) := by decide +kernel
theorem dS3_64 : decode jdk_42_method_149_code 64 = .ok (.aload_n 1, 1) := by decide +kernel
theorem dS3_65 : decode jdk_42_method_149_code 65 = .ok (.iload_n 2, 1) := by decide +kernel
theorem dS3_66 : decode jdk_42_method_149_code 66 = .ok (.iload_n 3, 1) := by decide +kernel
theorem dS3_67 : decode jdk_42_method_149_code 67 = .ok (.invokestatic 180, 3) := by decide +kernel
theorem dS3_70 : decode jdk_42_method_149_code 70 = .ok (.putfield 9, 3) := by decide +kernel
theorem dS3_73 : decode jdk_42_method_149_code 73 = .ok (.return_, 1) := by decide +kernel
theorem dS4_0 : decode jdk_42_method_3_code 0 = .ok (.aload_n 0, 1) := by decide +kernel
theorem dS4_1 : decode jdk_42_method_3_code 1 = .ok (.aload_n 1, 1) := by decide +kernel
theorem dS4_2 : decode jdk_42_method_3_code 2 = .ok (.iconst 0, 1) := by decide +kernel
theorem dS4_3 : decode jdk_42_method_3_code 3 = .ok (.aload_n 1, 1) := by decide +kernel
theorem dS4_4 : decode jdk_42_method_3_code 4 = .ok (.arraylength, 1) := by decide +kernel
theorem dS4_5 : decode jdk_42_method_3_code 5 = .ok (.aconst_null, 1) := by decide +kernel
theorem dS4_6 : decode jdk_42_method_3_code 6 = .ok (.invokespecial 27, 3) := by decide +kernel
theorem dS4_9 : decode jdk_42_method_3_code 9 = .ok (.return_, 1) := by decide +kernel
theorem pd___CI_BII_I : parseMethodDescriptor "([CI[BII)I" = some ⟨[(.array .char), .int, (.array .byte), .int, .int], (some .int)⟩ := by decide +kernel
theorem pd___CII__B : parseMethodDescriptor "([CII)[B" = some ⟨[(.array .char), .int, .int], (some (.array .byte))⟩ := by decide +kernel
theorem pd___BI_B : parseMethodDescriptor "([BI)B" = some ⟨[(.array .byte), .int], (some .byte)⟩ := by decide +kernel
theorem pd___CIILjava_lang_Void__V : parseMethodDescriptor "([CIILjava/lang/Void;)V" = some ⟨[(.array .char), .int, .int, (.object "java/lang/Void")], none⟩ := by decide +kernel
theorem pd___C_V : parseMethodDescriptor "([C)V" = some ⟨[(.array .char)], none⟩ := by decide +kernel
theorem pn_java_lang_StringUTF16 : plainName "java/lang/StringUTF16" = true := by first | (simp [plainName, overriddenIn]; done) | decide +kernel
set_option maxRecDepth 65536 in
set_option maxHeartbeats 4000000 in
theorem con_cmp5 (l : Launch) (Z : State) (a0 : Array Value) (hw : ∀ d ∈ tables_1, d.before a0 Z = true) (hEL : EW Z a0 consts_1) (b d : Addr) (kC kB : ClassId) (cs : List Int32) (dv : Value) (n : Nat) (h0 : Heap) (hn : cs.length = n) (hcap : n ≤ 4) (K : Arv Z h0 b kC .char (Int32.ofNat n) (cs.map Value.int) dv) (D : Arv Z h0 d kB .byte (Int32.ofNat n) (List.replicate n (.int 0)) (.int 0)) (hne : b ≠ d) :
    Ocon l Z consts_1 (⟨"java/lang/StringUTF16", "compress", "([CI[BII)I"⟩ : MethodName) jdk_52_method_21_code 7 (some .int) [] ({ frames := 0, cells := 0, slots := 0, locals := 0 } : Room) #[(.ref b), (.int (0 : Int32)), (.ref d), (.int (0 : Int32)), (.int (Int32.ofNat n))] h0 [d] ((List.range 4).map fun i => (⟨d, i⟩ : Loc)) (fun v h _ => ∃ r, r ≤ n ∧ v = some (.int (Int32.ofNat r)) ∧ Keep h0 h [d] ∧ (∀ i, i < r → ¬ (255 : Int32) < cs.getD i 0) ∧ (r < n → (255 : Int32) < cs.getD r 0) ∧ Arv Z h d kB .byte (Int32.ofNat n) (own_cmp cs n r) (.int 0)) := by
  refine own_con (a0 := a0) hEL (plainFor_of_name pn_java_lang_StringUTF16) ?_
  intro p e s m below meth c T hs W0
  have loop : ∀ (kk i : Nat) (T : State) (h : Heap) (s6 : Slot), i + kk = n → (∀ i', i' < i → ¬ (255 : Int32) < cs.getD i' 0) → One s6 → Keep h0 h [d] → Arv Z h b kC .char (Int32.ofNat n) (cs.map Value.int) dv → Arv Z h d kB .byte (Int32.ofNat n) (own_cmp cs n i) (.int 0) → Owk p l e ({ frames := 0, cells := 0, slots := 0, locals := 0 } : Room) s m #[(.ref b), (.int (0 : Int32)), (.ref d), (.int (0 : Int32)), (.int (Int32.ofNat n))] below meth c Z a0 consts_1 ((List.range 4).map fun i => (⟨d, i⟩ : Loc)) "java/lang/StringUTF16" "compress" jdk_52_method_21_code 7 (some .int) T h [d] 0 0 → Ogo p l e ({ frames := 0, cells := 0, slots := 0, locals := 0 } : Room) s m #[(.ref b), (.int (0 : Int32)), (.ref d), (.int (0 : Int32)), (.int (Int32.ofNat n))] below meth c Z a0 consts_1 ((List.range 4).map fun i => (⟨d, i⟩ : Loc)) "java/lang/StringUTF16" "compress" jdk_52_method_21_code 7 (some .int) T (mkF m 3 #[.val (.ref b), .val (.int (Int32.ofNat i)), .val (.ref d), .val (.int (Int32.ofNat i)), .val (.int (Int32.ofNat n)), .val (.int (Int32.ofNat i)), s6] []) (fun v h _ => ∃ r, r ≤ n ∧ v = some (.int (Int32.ofNat r)) ∧ Keep h0 h [d] ∧ (∀ i, i < r → ¬ (255 : Int32) < cs.getD i 0) ∧ (r < n → (255 : Int32) < cs.getD r 0) ∧ Arv Z h d kB .byte (Int32.ofNat n) (own_cmp cs n r) (.int 0)) := by
    intro kk
    induction kk with
    | zero =>
      intro i T h s6 hi hb h6 hK hV hD W0
      obtain rfl : n = i := by omega
      refine g_iload W0 dS0_3 (pc' := 5) rfl rfl ?_
      refine g_iload W0 dS0_5 (pc' := 7) rfl rfl ?_
      refine g_icY W0 dS0_7 (pc' := 44) (flt Int32.lt_irrefl).2.1 (by decide) (by decide) ?_
      refine g_iload W0 dS0_44 (pc' := 46) rfl rfl ?_
      exact g_iret W0 dS0_46 rfl (Or.inl rfl) rfl ⟨n, Nat.le_refl _, rfl, hK, hb, fun q => absurd q (Nat.lt_irrefl _), hD⟩
    | succ kk ih =>
      intro i T h s6 hi hb h6 hK hV hD W0
      have hin : i < n := by omega
      have hlt := own_lt (by omega) hin
      have hcl : (Int32.ofNat n).toNatClampNeg = n := own_clamp (by omega)
      refine g_iload W0 dS0_3 (pc' := 5) rfl rfl ?_
      refine g_iload W0 dS0_5 (pc' := 7) rfl rfl ?_
      refine g_icN W0 dS0_7 (pc' := 10) (tlt hlt).2.1 rfl ?_
      refine g_aloadN W0 dS0_10 (pc' := 11) rfl rfl rfl ?_
      refine g_iloadN W0 dS0_11 (pc' := 12) rfl rfl ?_
      refine g_caload W0 dS0_12 (pc' := 13) rfl hV (i := i) rfl (by rw [hcl]; exact hin) (v := (.int (cs.getD i 0))) (own_getI cs dv (by omega)) ?_
      refine g_istore W0 dS0_13 (pc' := 15) (ls' := #[.val (.ref b), .val (.int (Int32.ofNat i)), .val (.ref d), .val (.int (Int32.ofNat i)), .val (.int (Int32.ofNat n)), .val (.int (Int32.ofNat i)), .val (.int (cs.getD i 0))]) rfl (XS.store1 (o := s6) rfl h6 rfl) ?_
      refine g_iload W0 dS0_15 (pc' := 17) rfl rfl ?_
      refine g_sipush W0 dS0_17 (pc' := 20) rfl (v := 255) rfl ?_
      by_cases c1 : (255 : Int32) < (cs.getD i 0)
      · skip
        refine g_icN W0 dS0_20 (pc' := 23) (tlt c1).2.2.2 rfl ?_
        refine g_iload W0 dS0_23 (pc' := 25) rfl rfl ?_
        exact g_iret W0 dS0_25 rfl (Or.inl rfl) rfl ⟨i, Nat.le_of_lt hin, rfl, hK, hb, fun _ => by assumption, hD⟩
      · skip
        refine g_icY W0 dS0_20 (pc' := 26) (flt c1).2.2.2 (by decide) (by decide) ?_
        refine g_aloadN W0 dS0_26 (pc' := 27) rfl rfl rfl ?_
        refine g_iloadN W0 dS0_27 (pc' := 28) rfl rfl ?_
        refine g_iload W0 dS0_28 (pc' := 30) rfl rfl ?_
        refine g_i2b W0 dS0_30 (pc' := 31) rfl ?_
        refine g_bastore W0 dS0_31 (pc' := 32) rfl hD (i := i) rfl (by rw [hcl]; exact hin) (by rw [own_cmplen cs hn (by omega)]; exact hin) (own_lo8 _) (own_cmpset cs hn hin) (by simp) (Or.inl (by simp; omega)) ?_
        intro T2 h3 w4 A5 W6
        refine g_iinc W6 dS0_32 (pc' := 35) (v := Int32.ofNat (i + 1)) (ls' := #[.val (.ref b), .val (.int (Int32.ofNat (i + 1))), .val (.ref d), .val (.int (Int32.ofNat i)), .val (.int (Int32.ofNat n)), .val (.int (Int32.ofNat i)), .val (.int (cs.getD i 0))]) rfl rfl (own_succ i) rfl ?_
        refine g_iinc W6 dS0_35 (pc' := 38) (v := Int32.ofNat (i + 1)) (ls' := #[.val (.ref b), .val (.int (Int32.ofNat (i + 1))), .val (.ref d), .val (.int (Int32.ofNat (i + 1))), .val (.int (Int32.ofNat n)), .val (.int (Int32.ofNat i)), .val (.int (cs.getD i 0))]) rfl rfl (own_succ i) rfl ?_
        refine g_iinc W6 dS0_38 (pc' := 41) (v := Int32.ofNat (i + 1)) (ls' := #[.val (.ref b), .val (.int (Int32.ofNat (i + 1))), .val (.ref d), .val (.int (Int32.ofNat (i + 1))), .val (.int (Int32.ofNat n)), .val (.int (Int32.ofNat (i + 1))), .val (.int (cs.getD i 0))]) rfl rfl (own_succ i) rfl ?_
        refine g_goto W6 dS0_41 (pc' := 3) (by decide) (by decide) ?_
        refine ih (i + 1) T2 h3 _ (by omega) (fun i' hi' => ?_) (One.val rfl) (hK.wr w4 (Or.inl (by simp))) (hV.other w4 hne) A5 W6
        by_cases q : i' = i
        · subst q; exact c1
        · exact hb i' (by omega)
  have ef : entryFrame m #[(.ref b), (.int (0 : Int32)), (.ref d), (.int (0 : Int32)), (.int (Int32.ofNat n))] 7 = mkF m 0 #[.val (.ref b), .val (.int (0 : Int32)), .val (.ref d), .val (.int (0 : Int32)), .val (.int (Int32.ofNat n)), .unset, .unset] [] := own_entry m [(.ref b), (.int (0 : Int32)), (.ref d), (.int (0 : Int32)), (.int (Int32.ofNat n))] 7 (by simp [Value.category]) rfl
  rw [ef]
  refine g_iconst W0 dS0_0 (pc' := 1) rfl (v := 0) rfl ?_
  refine g_istore W0 dS0_1 (pc' := 3) rfl (ls' := #[.val (.ref b), .val (.int (0 : Int32)), .val (.ref d), .val (.int (0 : Int32)), .val (.int (Int32.ofNat n)), .val (.int (0 : Int32)), .unset]) rfl ?_
  exact loop n 0 T h0 .unset (by omega) (fun i' hi' => absurd hi' (Nat.not_lt_zero _)) One.u (Keep.refl _ _) K (by rw [own_cmp0]; exact D) W0
theorem dU0_0 : decode jdk_52_method_14_code 0 = .ok (.iload_n 2, 1) := by decide +kernel
theorem dU0_1 : decode jdk_52_method_14_code 1 = .ok (.invokestatic 107, 3) := by decide +kernel
theorem dU0_4 : decode jdk_52_method_14_code 4 = .ok (.astore_n 3, 1) := by decide +kernel
theorem dU0_5 : decode jdk_52_method_14_code 5 = .ok (.iconst 0, 1) := by decide +kernel
theorem dU0_6 : decode jdk_52_method_14_code 6 = .ok (.istore 4, 2) := by decide +kernel
theorem dU0_8 : decode jdk_52_method_14_code 8 = .ok (.iload 4, 2) := by decide +kernel
theorem dU0_10 : decode jdk_52_method_14_code 10 = .ok (.iload_n 2, 1) := by decide +kernel
theorem dU0_11 : decode jdk_52_method_14_code 11 = .ok (.if_icmp .ge 21, 3) := by decide +kernel
theorem dU0_14 : decode jdk_52_method_14_code 14 = .ok (.aload_n 3, 1) := by decide +kernel
theorem dU0_15 : decode jdk_52_method_14_code 15 = .ok (.iload 4, 2) := by decide +kernel
theorem dU0_17 : decode jdk_52_method_14_code 17 = .ok (.aload_n 0, 1) := by decide +kernel
theorem dU0_18 : decode jdk_52_method_14_code 18 = .ok (.iload_n 1, 1) := by decide +kernel
theorem dU0_19 : decode jdk_52_method_14_code 19 = .ok (.caload, 1) := by decide +kernel
theorem dU0_20 : decode jdk_52_method_14_code 20 = .ok (.invokestatic 111, 3) := by decide +kernel
theorem dU0_23 : decode jdk_52_method_14_code 23 = .ok (.iinc 1 1, 3) := by decide +kernel
theorem dU0_26 : decode jdk_52_method_14_code 26 = .ok (.iinc 4 1, 3) := by decide +kernel
theorem dU0_29 : decode jdk_52_method_14_code 29 = .ok (.goto (-21), 3) := by decide +kernel
theorem dU0_32 : decode jdk_52_method_14_code 32 = .ok (.aload_n 3, 1) := by decide +kernel
theorem dU0_33 : decode jdk_52_method_14_code 33 = .ok (.areturn, 1) := by decide +kernel
theorem dU1_0 : decode jdk_52_method_2_code 0 = .ok (.iload_n 0, 1) := by decide +kernel
theorem dU1_1 : decode jdk_52_method_2_code 1 = .ok (.invokestatic 11, 3) := by decide +kernel
theorem dU1_4 : decode jdk_52_method_2_code 4 = .ok (.newarray .byte, 2) := by decide +kernel
theorem dU1_6 : decode jdk_52_method_2_code 6 = .ok (.areturn, 1) := by decide +kernel
theorem dU2_0 : decode jdk_52_method_3_code 0 = .ok (.iload_n 0, 1) := by decide +kernel
theorem dU2_1 : decode jdk_52_method_3_code 1 = .ok (.ifCond .ge 11, 3) := by decide +kernel
theorem dU2_4 : decode jdk_52_method_3_code 4 = .ok (.new 17, 3) := by decide +kernel
theorem dU2_7 : decode jdk_52_method_3_code 7 = .ok (.dup, 1) := by decide +kernel
theorem dU2_8 : decode jdk_52_method_3_code 8 = .ok (.invokespecial 19, 3) := by decide +kernel
theorem dU2_11 : decode jdk_52_method_3_code 11 = .ok (.athrow, 1) := by decide +kernel
theorem dU2_12 : decode jdk_52_method_3_code 12 = .ok (.iload_n 0, 1) := by decide +kernel
theorem dU2_13 : decode jdk_52_method_3_code 13 = .ok (.ldc 20, 2) := by decide +kernel
theorem dU2_15 : decode jdk_52_method_3_code 15 = .ok (.if_icmp .lt 40, 3) := by decide +kernel
theorem dU2_18 : decode jdk_52_method_3_code 18 = .ok (.new 21, 3) := by decide +kernel
theorem dU2_21 : decode jdk_52_method_3_code 21 = .ok (.dup, 1) := by decide +kernel
theorem dU2_22 : decode jdk_52_method_3_code 22 = .ok (.new 23, 3) := by decide +kernel
theorem dU2_25 : decode jdk_52_method_3_code 25 = .ok (.dup, 1) := by decide +kernel
theorem dU2_26 : decode jdk_52_method_3_code 26 = .ok (.invokespecial 25, 3) := by decide +kernel
theorem dU2_29 : decode jdk_52_method_3_code 29 = .ok (.ldc 26, 2) := by decide +kernel
theorem dU2_31 : decode jdk_52_method_3_code 31 = .ok (.invokevirtual 28, 3) := by decide +kernel
theorem dU2_34 : decode jdk_52_method_3_code 34 = .ok (.iload_n 0, 1) := by decide +kernel
theorem dU2_35 : decode jdk_52_method_3_code 35 = .ok (.invokevirtual 32, 3) := by decide +kernel
theorem dU2_38 : decode jdk_52_method_3_code 38 = .ok (.ldc 35, 2) := by decide +kernel
theorem dU2_40 : decode jdk_52_method_3_code 40 = .ok (.invokevirtual 28, 3) := by decide +kernel
theorem dU2_43 : decode jdk_52_method_3_code 43 = .ok (.ldc 20, 2) := by decide +kernel
theorem dU2_45 : decode jdk_52_method_3_code 45 = .ok (.invokevirtual 32, 3) := by decide +kernel
theorem dU2_48 : decode jdk_52_method_3_code 48 = .ok (.invokevirtual 37, 3) := by decide +kernel
theorem dU2_51 : decode jdk_52_method_3_code 51 = .ok (.invokespecial 41, 3) := by decide +kernel
theorem dU2_54 : decode jdk_52_method_3_code 54 = .ok (.athrow, 1) := by decide +kernel
theorem dU2_55 : decode jdk_52_method_3_code 55 = .ok (.iload_n 0, 1) := by decide +kernel
theorem dU2_56 : decode jdk_52_method_3_code 56 = .ok (.iconst 1, 1) := by decide +kernel
theorem dU2_57 : decode jdk_52_method_3_code 57 = .ok (.ishl, 1) := by decide +kernel
theorem dU2_58 : decode jdk_52_method_3_code 58 = .ok (.ireturn, 1) := by decide +kernel
theorem dU3_0 : decode jdk_52_method_4_code 0 = .ok (.getstatic 44, 3) := by decide +kernel
theorem dU3_3 : decode jdk_52_method_4_code 3 = .ok (.ifCond .ne 25, 3) := by decide +kernel
theorem dU3_6 : decode jdk_52_method_4_code 6 = .ok (.iload_n 1, 1) := by decide +kernel
theorem dU3_7 : decode jdk_52_method_4_code 7 = .ok (.ifCond .lt 11, 3) := by decide +kernel
theorem dU3_10 : decode jdk_52_method_4_code 10 = .ok (.iload_n 1, 1) := by decide +kernel
theorem dU3_11 : decode jdk_52_method_4_code 11 = .ok (.aload_n 0, 1) := by decide +kernel
theorem dU3_12 : decode jdk_52_method_4_code 12 = .ok (.invokestatic 48, 3) := by decide +kernel
theorem dU3_15 : decode jdk_52_method_4_code 15 = .ok (.if_icmp .lt 13, 3) := by decide +kernel
theorem dU3_18 : decode jdk_52_method_4_code 18 = .ok (.new 52, 3) := by decide +kernel
theorem dU3_21 : decode jdk_52_method_4_code 21 = .ok (.dup, 1) := by decide +kernel
theorem dU3_22 : decode jdk_52_method_4_code 22 = .ok (.ldc 54, 2) := by decide +kernel
theorem dU3_24 : decode jdk_52_method_4_code 24 = .ok (.invokespecial 56, 3) := by decide +kernel
theorem dU3_27 : decode jdk_52_method_4_code 27 = .ok (.athrow, 1) := by decide +kernel
theorem dU3_28 : decode jdk_52_method_4_code 28 = .ok (.iload_n 1, 1) := by decide +kernel
theorem dU3_29 : decode jdk_52_method_4_code 29 = .ok (.iconst 1, 1) := by decide +kernel
theorem dU3_30 : decode jdk_52_method_4_code 30 = .ok (.ishl, 1) := by decide +kernel
theorem dU3_31 : decode jdk_52_method_4_code 31 = .ok (.istore_n 1, 1) := by decide +kernel
theorem dU3_32 : decode jdk_52_method_4_code 32 = .ok (.aload_n 0, 1) := by decide +kernel
theorem dU3_33 : decode jdk_52_method_4_code 33 = .ok (.iload_n 1, 1) := by decide +kernel
theorem dU3_34 : decode jdk_52_method_4_code 34 = .ok (.iinc 1 1, 3) := by decide +kernel
theorem dU3_37 : decode jdk_52_method_4_code 37 = .ok (.iload_n 2, 1) := by decide +kernel
theorem dU3_38 : decode jdk_52_method_4_code 38 = .ok (.getstatic 59, 3) := by decide +kernel
theorem dU3_41 : decode jdk_52_method_4_code 41 = .ok (.ishr, 1) := by decide +kernel
theorem dU3_42 : decode jdk_52_method_4_code 42 = .ok (.i2b, 1) := by decide +kernel
theorem dU3_43 : decode jdk_52_method_4_code 43 = .ok (.bastore, 1) := by decide +kernel
theorem dU3_44 : decode jdk_52_method_4_code 44 = .ok (.aload_n 0, 1) := by decide +kernel
theorem dU3_45 : decode jdk_52_method_4_code 45 = .ok (.iload_n 1, 1) := by decide +kernel
theorem dU3_46 : decode jdk_52_method_4_code 46 = .ok (.iload_n 2, 1) := by decide +kernel
theorem dU3_47 : decode jdk_52_method_4_code 47 = .ok (.getstatic 63, 3) := by decide +kernel
theorem dU3_50 : decode jdk_52_method_4_code 50 = .ok (.ishr, 1) := by decide +kernel
theorem dU3_51 : decode jdk_52_method_4_code 51 = .ok (.i2b, 1) := by decide +kernel
theorem dU3_52 : decode jdk_52_method_4_code 52 = .ok (.bastore, 1) := by decide +kernel
theorem dU3_53 : decode jdk_52_method_4_code 53 = .ok (.return_, 1) := by decide +kernel
theorem dU4_0 : decode jdk_52_method_5_code 0 = .ok (.getstatic 44, 3) := by decide +kernel
theorem dU4_3 : decode jdk_52_method_5_code 3 = .ok (.ifCond .ne 25, 3) := by decide +kernel
theorem dU4_6 : decode jdk_52_method_5_code 6 = .ok (.iload_n 1, 1) := by decide +kernel
theorem dU4_7 : decode jdk_52_method_5_code 7 = .ok (.ifCond .lt 11, 3) := by decide +kernel
theorem dU4_10 : decode jdk_52_method_5_code 10 = .ok (.iload_n 1, 1) := by decide +kernel
theorem dU4_11 : decode jdk_52_method_5_code 11 = .ok (.aload_n 0, 1) := by decide +kernel
theorem dU4_12 : decode jdk_52_method_5_code 12 = .ok (.invokestatic 48, 3) := by decide +kernel
theorem dU4_15 : decode jdk_52_method_5_code 15 = .ok (.if_icmp .lt 13, 3) := by decide +kernel
theorem dU4_18 : decode jdk_52_method_5_code 18 = .ok (.new 52, 3) := by decide +kernel
theorem dU4_21 : decode jdk_52_method_5_code 21 = .ok (.dup, 1) := by decide +kernel
theorem dU4_22 : decode jdk_52_method_5_code 22 = .ok (.ldc 54, 2) := by decide +kernel
theorem dU4_24 : decode jdk_52_method_5_code 24 = .ok (.invokespecial 56, 3) := by decide +kernel
theorem dU4_27 : decode jdk_52_method_5_code 27 = .ok (.athrow, 1) := by decide +kernel
theorem dU4_28 : decode jdk_52_method_5_code 28 = .ok (.iload_n 1, 1) := by decide +kernel
theorem dU4_29 : decode jdk_52_method_5_code 29 = .ok (.iconst 1, 1) := by decide +kernel
theorem dU4_30 : decode jdk_52_method_5_code 30 = .ok (.ishl, 1) := by decide +kernel
theorem dU4_31 : decode jdk_52_method_5_code 31 = .ok (.istore_n 1, 1) := by decide +kernel
theorem dU4_32 : decode jdk_52_method_5_code 32 = .ok (.aload_n 0, 1) := by decide +kernel
theorem dU4_33 : decode jdk_52_method_5_code 33 = .ok (.iload_n 1, 1) := by decide +kernel
theorem dU4_34 : decode jdk_52_method_5_code 34 = .ok (.iinc 1 1, 3) := by decide +kernel
theorem dU4_37 : decode jdk_52_method_5_code 37 = .ok (.baload, 1) := by decide +kernel
theorem dU4_38 : decode jdk_52_method_5_code 38 = .ok (.sipush 255, 3) := by decide +kernel
theorem dU4_41 : decode jdk_52_method_5_code 41 = .ok (.iand, 1) := by decide +kernel
theorem dU4_42 : decode jdk_52_method_5_code 42 = .ok (.getstatic 59, 3) := by decide +kernel
theorem dU4_45 : decode jdk_52_method_5_code 45 = .ok (.ishl, 1) := by decide +kernel
theorem dU4_46 : decode jdk_52_method_5_code 46 = .ok (.aload_n 0, 1) := by decide +kernel
theorem dU4_47 : decode jdk_52_method_5_code 47 = .ok (.iload_n 1, 1) := by decide +kernel
theorem dU4_48 : decode jdk_52_method_5_code 48 = .ok (.baload, 1) := by decide +kernel
theorem dU4_49 : decode jdk_52_method_5_code 49 = .ok (.sipush 255, 3) := by decide +kernel
theorem dU4_52 : decode jdk_52_method_5_code 52 = .ok (.iand, 1) := by decide +kernel
theorem dU4_53 : decode jdk_52_method_5_code 53 = .ok (.getstatic 63, 3) := by decide +kernel
theorem dU4_56 : decode jdk_52_method_5_code 56 = .ok (.ishl, 1) := by decide +kernel
theorem dU4_57 : decode jdk_52_method_5_code 57 = .ok (.ior, 1) := by decide +kernel
theorem dU4_58 : decode jdk_52_method_5_code 58 = .ok (.i2c, 1) := by decide +kernel
theorem dU4_59 : decode jdk_52_method_5_code 59 = .ok (.ireturn, 1) := by decide +kernel
theorem pd__I__B : parseMethodDescriptor "(I)[B" = some ⟨[.int], (some (.array .byte))⟩ := by decide +kernel
theorem pd__I_I : parseMethodDescriptor "(I)I" = some ⟨[.int], (some .int)⟩ := by decide +kernel
theorem pd___BII_V : parseMethodDescriptor "([BII)V" = some ⟨[(.array .byte), .int, .int], none⟩ := by decide +kernel
theorem pd___BI_C : parseMethodDescriptor "([BI)C" = some ⟨[(.array .byte), .int], (some .char)⟩ := by decide +kernel
set_option maxRecDepth 65536 in
set_option maxHeartbeats 4000000 in
theorem con_getc (l : Launch) (Z : State) (a0 : Array Value) (hw : ∀ d ∈ tables_1, d.before a0 Z = true) (hEL : EW Z a0 consts_1) (t : Addr) (kb : ClassId) (N : Int32) (vs : List Value) (i : Nat) (c1 : Int32) (h0 : Heap) (O : Ext Z.heap h0) (SA : Sta Z Z.heap "java/lang/StringUTF16" "$assertionsDisabled" "Z" (.int 1)) (SH : Sta Z Z.heap "java/lang/StringUTF16" "HI_BYTE_SHIFT" "I" (.int 0)) (SL : Sta Z Z.heap "java/lang/StringUTF16" "LO_BYTE_SHIFT" "I" (.int 8)) (K : Arv Z h0 t kb .byte N vs (.int 0)) (hi : 2 * i + 1 < N.toNatClampNeg) (h29 : i < 2 ^ 29) (hlo : vs.getD (2 * i) (.int 0) = .int (StrChars.lo8 c1)) (hhi : vs.getD (2 * i + 1) (.int 0) = .int (StrChars.hi8 c1)) (hb : ¬ c1 < 0 ∧ ¬ (65535 : Int32) < c1) :
    Ocon l Z consts_1 (⟨"java/lang/StringUTF16", "getChar", "([BI)C"⟩ : MethodName) jdk_52_method_5_code 2 (some .char) [] ({ frames := 0, cells := 0, slots := 0, locals := 0 } : Room) #[(.ref t), (.int (Int32.ofNat i))] h0 [] [] (fun v h _ => v = some (.int c1) ∧ h0 = h) := by
  refine own_con (a0 := a0) hEL (plainFor_of_name pn_java_lang_StringUTF16) ?_
  intro p e s m below meth c T hs W0
  have ef : entryFrame m #[(.ref t), (.int (Int32.ofNat i))] 2 = mkF m 0 #[.val (.ref t), .val (.int (Int32.ofNat i))] [] := own_entry m [(.ref t), (.int (Int32.ofNat i))] 2 (by simp [Value.category]) rfl
  rw [ef]
  refine g_getS W0 dU4_0 (pc' := 3) rfl (hw _ (List.mem_of_getElem? (i := 125) rfl)) (SA.ext O) ?_
  intro T8 W7
  refine g_ifY W7 dU4_3 (pc' := 28) (feq (by decide : ¬ ((1 : Int32) = (0 : Int32)))).2 (by decide) (by decide) ?_
  refine g_iloadN W7 dU4_28 (pc' := 29) rfl rfl ?_
  refine g_iconst W7 dU4_29 (pc' := 30) rfl (v := 1) rfl ?_
  refine g_ishl W7 dU4_30 (pc' := 31) rfl ?_
  rw [own_dbl h29]
  refine g_istoreN W7 dU4_31 (pc' := 32) rfl (ls' := #[.val (.ref t), .val (.int (Int32.ofNat (2 * i)))]) rfl ?_
  refine g_aloadN W7 dU4_32 (pc' := 33) rfl rfl rfl ?_
  refine g_iloadN W7 dU4_33 (pc' := 34) rfl rfl ?_
  refine g_iinc W7 dU4_34 (pc' := 37) (v := Int32.ofNat (2 * i + 1)) (ls' := #[.val (.ref t), .val (.int (Int32.ofNat (2 * i + 1)))]) rfl rfl (own_succ (2 * i)) rfl ?_
  refine g_baload W7 dU4_37 (pc' := 38) rfl K (i := (2 * i)) rfl (by omega) (v := (.int (StrChars.lo8 c1))) hlo ?_
  refine g_sipush W7 dU4_38 (pc' := 41) rfl (v := 255) rfl ?_
  refine g_iand W7 dU4_41 (pc' := 42) rfl ?_
  refine g_getS W7 dU4_42 (pc' := 45) rfl (hw _ (List.mem_of_getElem? (i := 126) rfl)) (SH.ext O) ?_
  intro T10 W9
  refine g_ishl W9 dU4_45 (pc' := 46) rfl ?_
  refine g_aloadN W9 dU4_46 (pc' := 47) rfl rfl rfl ?_
  refine g_iloadN W9 dU4_47 (pc' := 48) rfl rfl ?_
  refine g_baload W9 dU4_48 (pc' := 49) rfl K (i := (2 * i + 1)) rfl hi (v := (.int (StrChars.hi8 c1))) hhi ?_
  refine g_sipush W9 dU4_49 (pc' := 52) rfl (v := 255) rfl ?_
  refine g_iand W9 dU4_52 (pc' := 53) rfl ?_
  refine g_getS W9 dU4_53 (pc' := 56) rfl (hw _ (List.mem_of_getElem? (i := 127) rfl)) (SL.ext O) ?_
  intro T12 W11
  refine g_ishl W11 dU4_56 (pc' := 57) rfl ?_
  refine g_ior W11 dU4_57 (pc' := 58) rfl ?_
  refine g_i2c W11 dU4_58 (pc' := 59) rfl ?_
  have e9 := StrChars.pair_says hb.1 hb.2
  unfold StrChars.pairCh at e9
  rw [e9]
  exact g_iret W11 dU4_59 rfl (Or.inr (Or.inr (Or.inr (Or.inl rfl)))) (StrChars.narrow_ch hb.1 hb.2) ⟨rfl, rfl⟩
set_option maxRecDepth 65536 in
set_option maxHeartbeats 4000000 in
theorem con_putc (l : Launch) (Z : State) (a0 : Array Value) (hw : ∀ d ∈ tables_1, d.before a0 Z = true) (hEL : EW Z a0 consts_1) (t : Addr) (kb : ClassId) (N : Int32) (vs : List Value) (i : Nat) (c1 : Int32) (h0 : Heap) (O : Ext Z.heap h0) (SA : Sta Z Z.heap "java/lang/StringUTF16" "$assertionsDisabled" "Z" (.int 1)) (SH : Sta Z Z.heap "java/lang/StringUTF16" "HI_BYTE_SHIFT" "I" (.int 0)) (SL : Sta Z Z.heap "java/lang/StringUTF16" "LO_BYTE_SHIFT" "I" (.int 8)) (ht : Z.heap.size ≤ t) (K : Arv Z h0 t kb .byte N vs (.int 0)) (hi : 2 * i + 1 < N.toNatClampNeg) (hl : 2 * i + 1 < vs.length) (hcap : 2 * i + 1 < 8) :
    Ocon l Z consts_1 (⟨"java/lang/StringUTF16", "putChar", "([BII)V"⟩ : MethodName) jdk_52_method_4_code 3 none [] ({ frames := 0, cells := 0, slots := 0, locals := 0 } : Room) #[(.ref t), (.int (Int32.ofNat i)), (.int c1)] h0 [t] ((List.range 8).map fun i => (⟨t, i⟩ : Loc)) (fun v h _ => v = none ∧ Keep h0 h [t] ∧ Arv Z h t kb .byte N ((vs.set (2 * i) (.int (StrChars.lo8 c1))).set (2 * i + 1) (.int (StrChars.hi8 c1))) (.int 0)) := by
  refine own_con (a0 := a0) hEL (plainFor_of_name pn_java_lang_StringUTF16) ?_
  intro p e s m below meth c T hs W0
  have ef : entryFrame m #[(.ref t), (.int (Int32.ofNat i)), (.int c1)] 3 = mkF m 0 #[.val (.ref t), .val (.int (Int32.ofNat i)), .val (.int c1)] [] := own_entry m [(.ref t), (.int (Int32.ofNat i)), (.int c1)] 3 (by simp [Value.category]) rfl
  rw [ef]
  have h29 : i < 2 ^ 29 := by omega
  refine g_getS W0 dU3_0 (pc' := 3) rfl (hw _ (List.mem_of_getElem? (i := 125) rfl)) (SA.ext O) ?_
  intro T14 W13
  refine g_ifY W13 dU3_3 (pc' := 28) (feq (by decide : ¬ ((1 : Int32) = (0 : Int32)))).2 (by decide) (by decide) ?_
  refine g_iloadN W13 dU3_28 (pc' := 29) rfl rfl ?_
  refine g_iconst W13 dU3_29 (pc' := 30) rfl (v := 1) rfl ?_
  refine g_ishl W13 dU3_30 (pc' := 31) rfl ?_
  rw [own_dbl h29]
  refine g_istoreN W13 dU3_31 (pc' := 32) rfl (ls' := #[.val (.ref t), .val (.int (Int32.ofNat (2 * i))), .val (.int c1)]) rfl ?_
  refine g_aloadN W13 dU3_32 (pc' := 33) rfl rfl rfl ?_
  refine g_iloadN W13 dU3_33 (pc' := 34) rfl rfl ?_
  refine g_iinc W13 dU3_34 (pc' := 37) (v := Int32.ofNat (2 * i + 1)) (ls' := #[.val (.ref t), .val (.int (Int32.ofNat (2 * i + 1))), .val (.int c1)]) rfl rfl (own_succ (2 * i)) rfl ?_
  refine g_iloadN W13 dU3_37 (pc' := 38) rfl rfl ?_
  refine g_getS W13 dU3_38 (pc' := 41) rfl (hw _ (List.mem_of_getElem? (i := 126) rfl)) (SH.ext O) ?_
  intro T16 W15
  refine g_ishr W15 dU3_41 (pc' := 42) rfl ?_
  refine g_i2b W15 dU3_42 (pc' := 43) rfl ?_
  refine g_bastore W15 dU3_43 (pc' := 44) rfl K (i := 2 * i) rfl (by omega) (by omega) ((own_lo8 _).trans (congrArg StrChars.lo8 (StrChars.shr0 c1))) rfl (by simp) (Or.inl (by simp; omega)) ?_
  intro T17 h18 w19 A20 W21
  have O1 := own_ext_wr O w19 ht
  refine g_aloadN W21 dU3_44 (pc' := 45) rfl rfl rfl ?_
  refine g_iloadN W21 dU3_45 (pc' := 46) rfl rfl ?_
  refine g_iloadN W21 dU3_46 (pc' := 47) rfl rfl ?_
  refine g_getS W21 dU3_47 (pc' := 50) rfl (hw _ (List.mem_of_getElem? (i := 127) rfl)) (SL.ext O1) ?_
  intro T24 W23
  refine g_ishr W23 dU3_50 (pc' := 51) rfl ?_
  refine g_i2b W23 dU3_51 (pc' := 52) rfl ?_
  refine g_bastore W23 dU3_52 (pc' := 53) rfl A20 (i := 2 * i + 1) rfl hi (by rw [List.length_set]; exact hl) (own_lo8 _) rfl (by simp) (Or.inl (by simp; omega)) ?_
  intro T25 h26 w27 A28 W29
  exact g_return W29 dU3_53 rfl ⟨rfl, ((Keep.refl _ _).wr w19 (Or.inl (by simp))).wr w27 (Or.inl (by simp)), A28⟩
set_option maxRecDepth 65536 in
set_option maxHeartbeats 4000000 in
theorem con_nbl (l : Launch) (Z : State) (a0 : Array Value) (hw : ∀ d ∈ tables_1, d.before a0 Z = true) (hEL : EW Z a0 consts_1) (n : Nat) (h0 : Heap) (hcap : n ≤ 4) :
    Ocon l Z consts_1 (⟨"java/lang/StringUTF16", "newBytesLength", "(I)I"⟩ : MethodName) jdk_52_method_3_code 1 (some .int) [] ({ frames := 0, cells := 0, slots := 0, locals := 0 } : Room) #[(.int (Int32.ofNat n))] h0 [] [] (fun v h _ => v = some (.int (Int32.ofNat (2 * n))) ∧ h0 = h) := by
  refine own_con (a0 := a0) hEL (plainFor_of_name pn_java_lang_StringUTF16) ?_
  intro p e s m below meth c T hs W0
  have ef : entryFrame m #[(.int (Int32.ofNat n))] 1 = mkF m 0 #[.val (.int (Int32.ofNat n))] [] := own_entry m [(.int (Int32.ofNat n))] 1 (by simp [Value.category]) rfl
  rw [ef]
  refine g_iloadN W0 dU2_0 (pc' := 1) rfl rfl ?_
  refine g_ifY W0 dU2_1 (pc' := 12) (flt (own_nn (by omega))).2.1 (by decide) (by decide) ?_
  refine g_iloadN W0 dU2_12 (pc' := 13) rfl rfl ?_
  refine g_ldcI W0 dU2_13 (pc' := 15) rfl (hw _ (List.mem_of_getElem? (i := 121) rfl)) ?_
  refine g_icY W0 dU2_15 (pc' := 55) (tlt (own_lt (n := 1073741823) (by decide) (by omega))).1 (by decide) (by decide) ?_
  refine g_iloadN W0 dU2_55 (pc' := 56) rfl rfl ?_
  refine g_iconst W0 dU2_56 (pc' := 57) rfl (v := 1) rfl ?_
  refine g_ishl W0 dU2_57 (pc' := 58) rfl ?_
  rw [own_dbl (by omega)]
  exact g_iret W0 dU2_58 rfl (Or.inl rfl) rfl ⟨rfl, rfl⟩
set_option maxRecDepth 65536 in
set_option maxHeartbeats 4000000 in
theorem con_nbf (l : Launch) (Z : State) (a0 : Array Value) (hw : ∀ d ∈ tables_1, d.before a0 Z = true) (hEL : EW Z a0 consts_1) (n : Nat) (h0 : Heap) (hcap : n ≤ 4) :
    Ocon l Z consts_1 (⟨"java/lang/StringUTF16", "newBytesFor", "(I)[B"⟩ : MethodName) jdk_52_method_2_code 1 (some (.array .byte)) [] ({ frames := 1, cells := 1, slots := 8, locals := 12 } : Room) #[(.int (Int32.ofNat n))] h0 [] [] (fun v h SF => ∃ (t : Addr) (kb : ClassId), v = some (.ref t) ∧ Ext h0 h ∧ h0.size ≤ t ∧ t ∈ SF ∧ Arv Z h t kb .byte (Int32.ofNat (2 * n)) (List.replicate (2 * n) (.int 0)) (.int 0)) := by
  refine own_con (a0 := a0) hEL (plainFor_of_name pn_java_lang_StringUTF16) ?_
  intro p e s m below meth c T hs W0
  have ef : entryFrame m #[(.int (Int32.ofNat n))] 1 = mkF m 0 #[.val (.int (Int32.ofNat n))] [] := own_entry m [(.int (Int32.ofNat n))] 1 (by simp [Value.category]) rfl
  rw [ef]
  refine g_iloadN W0 dU1_0 (pc' := 1) rfl rfl ?_
  refine g_static W0 dU1_1 (pc' := 4) rfl (hw _ (List.mem_of_getElem? (i := 118) rfl)) (hw _ (List.mem_of_getElem? (i := 119) rfl)) (hw _ (List.mem_of_getElem? (i := 19) rfl)) (hw _ (List.mem_of_getElem? (i := 120) rfl)) (by decide) (con_nbl l Z a0 hw hEL n h0 hcap) pd__I_I (argsL := [(.int (Int32.ofNat n))]) (st := []) rfl rfl rfl rfl (by decide) (w := 0) (Nat.le_of_eq rfl) (by decide) (by decide) (by decide) (by simp) (fun q hq => nomatch hq) ?_
  intro v31 T32 h33 S36 q34 W37
  have W35 := W37.sf (SF' := []) (fun _ hx => List.mem_append_right _ hx)
  obtain ⟨rfl, rfl⟩ := q34
  refine g_newP W35 dU1_4 (pc' := 6) (cap := 8) rfl (ty := .byte) (dv := (.int 0)) rfl rfl (hw _ (List.mem_of_getElem? (i := 1) rfl)) (own_nn (by omega)) (by rw [own_clamp (by omega)]; omega) (by decide) (by decide) (by decide) ?_
  intro T38 h39 cA40 E41 A42 W43
  obtain ⟨a44, g45⟩ : ∃ z, z = h0.size := ⟨_, rfl⟩
  rw [← g45] at A42 W43 ⊢
  exact g_aret W43 dU1_6 rfl rfl rfl rfl ⟨a44, _, rfl, E41, (by first | exact Nat.le_refl _ | exact Nat.le_of_eq g45.symm), by simp, own_pad0 _ A42⟩
set_option maxRecDepth 65536 in
set_option maxHeartbeats 4000000 in
theorem con_tob (l : Launch) (Z : State) (a0 : Array Value) (hw : ∀ d ∈ tables_1, d.before a0 Z = true) (hEL : EW Z a0 consts_1) (b : Addr) (kC : ClassId) (cs : List Int32) (dv : Value) (n : Nat) (h0 : Heap) (O : Ext Z.heap h0) (SA : Sta Z Z.heap "java/lang/StringUTF16" "$assertionsDisabled" "Z" (.int 1)) (SH : Sta Z Z.heap "java/lang/StringUTF16" "HI_BYTE_SHIFT" "I" (.int 0)) (SL : Sta Z Z.heap "java/lang/StringUTF16" "LO_BYTE_SHIFT" "I" (.int 8)) (hn : cs.length = n) (hcap : n ≤ 4) (K : Arv Z h0 b kC .char (Int32.ofNat n) (cs.map Value.int) dv) :
    Ocon l Z consts_1 (⟨"java/lang/StringUTF16", "toBytes", "([CII)[B"⟩ : MethodName) jdk_52_method_14_code 5 (some (.array .byte)) [] ({ frames := 2, cells := 1, slots := 8, locals := 24 } : Room) #[(.ref b), (.int (0 : Int32)), (.int (Int32.ofNat n))] h0 [] [] (fun v h _ => ∃ (t : Addr) (kb : ClassId), v = some (.ref t) ∧ Ext h0 h ∧ h0.size ≤ t ∧ Arv Z h t kb .byte (Int32.ofNat (2 * n)) (StrChars.Road.wideBytes cs) (.int 0)) := by
  refine own_con (a0 := a0) hEL (plainFor_of_name pn_java_lang_StringUTF16) ?_
  intro p e s m below meth c T hs W0
  have hcl : (Int32.ofNat n).toNatClampNeg = n := own_clamp (by omega)
  have hcl2 : (Int32.ofNat (2 * n)).toNatClampNeg = 2 * n := own_clamp (by omega)
  have loop : ∀ (t : Addr) (kb : ClassId) (kk i : Nat) (T : State) (h : Heap), h0.size ≤ t → s.heap.size ≤ t → i + kk = n → Ext h0 h → Arv Z h t kb .byte (Int32.ofNat (2 * n)) (own_wide cs n i) (.int 0) → Owk p l e ({ frames := 2, cells := 1, slots := 8, locals := 24 } : Room) s m #[(.ref b), (.int (0 : Int32)), (.int (Int32.ofNat n))] below meth c Z a0 consts_1 [] "java/lang/StringUTF16" "toBytes" jdk_52_method_14_code 5 (some (.array .byte)) T h [t] 1 8 → Ogo p l e ({ frames := 2, cells := 1, slots := 8, locals := 24 } : Room) s m #[(.ref b), (.int (0 : Int32)), (.int (Int32.ofNat n))] below meth c Z a0 consts_1 [] "java/lang/StringUTF16" "toBytes" jdk_52_method_14_code 5 (some (.array .byte)) T (mkF m 8 #[.val (.ref b), .val (.int (Int32.ofNat i)), .val (.int (Int32.ofNat n)), .val (.ref t), .val (.int (Int32.ofNat i))] []) (fun v h _ => ∃ (t : Addr) (kb : ClassId), v = some (.ref t) ∧ Ext h0 h ∧ h0.size ≤ t ∧ Arv Z h t kb .byte (Int32.ofNat (2 * n)) (StrChars.Road.wideBytes cs) (.int 0)) := by
    intro t kb kk
    induction kk with
    | zero =>
      intro i T h ht hts hi X hD W0
      obtain rfl : n = i := by omega
      rw [own_widen cs hn] at hD
      refine g_iload W0 dU0_8 (pc' := 10) rfl rfl ?_
      refine g_iloadN W0 dU0_10 (pc' := 11) rfl rfl ?_
      refine g_icY W0 dU0_11 (pc' := 32) (flt Int32.lt_irrefl).2.1 (by decide) (by decide) ?_
      refine g_aloadN W0 dU0_32 (pc' := 33) rfl rfl rfl ?_
      exact g_aret W0 dU0_33 rfl rfl rfl rfl ⟨t, kb, rfl, X, ht, hD⟩
    | succ kk ih =>
      intro i T h ht hts hi X hD W0
      have hin : i < n := by omega
      have hlt := own_lt (by omega) hin
      refine g_iload W0 dU0_8 (pc' := 10) rfl rfl ?_
      refine g_iloadN W0 dU0_10 (pc' := 11) rfl rfl ?_
      refine g_icN W0 dU0_11 (pc' := 14) (tlt hlt).2.1 rfl ?_
      refine g_aloadN W0 dU0_14 (pc' := 15) rfl rfl rfl ?_
      refine g_iload W0 dU0_15 (pc' := 17) rfl rfl ?_
      refine g_aloadN W0 dU0_17 (pc' := 18) rfl rfl rfl ?_
      refine g_iloadN W0 dU0_18 (pc' := 19) rfl rfl ?_
      refine g_caload W0 dU0_19 (pc' := 20) rfl (K.ext X) (i := i) rfl (by rw [hcl]; exact hin) (v := (.int (cs.getD i 0))) (own_getI cs dv (by omega)) ?_
      refine g_static W0 dU0_20 (pc' := 23) rfl (hw _ (List.mem_of_getElem? (i := 122) rfl)) (hw _ (List.mem_of_getElem? (i := 123) rfl)) (hw _ (List.mem_of_getElem? (i := 19) rfl)) (hw _ (List.mem_of_getElem? (i := 124) rfl)) (by decide) (con_putc l Z a0 hw hEL t kb _ _ i (cs.getD i 0) h (own_ext_tr O X) SA SH SL (Nat.le_trans O.1 ht) hD (by rw [hcl2]; omega) (by rw [own_widelen cs hn (by omega)]; omega) (by omega)) pd___BII_V (argsL := [(.ref t), (.int (Int32.ofNat i)), (.int (cs.getD i 0))]) (st := []) rfl rfl rfl rfl (by decide) (w := 0) (Nat.le_of_eq rfl) (by decide) (by decide) (by decide) (by simp) (fun q hq => Or.inr (by obtain ⟨i, -, rfl⟩ := List.mem_map.mp hq; exact hts)) ?_
      intro v46 T47 h48 S51 q49 W52
      have W50 := W52.sf (SF' := [t]) (fun _ hx => List.mem_append_right _ hx)
      obtain ⟨rfl, qK, qA⟩ := q49
      rw [own_wideset cs hn hin] at qA
      refine g_iinc W50 dU0_23 (pc' := 26) (v := Int32.ofNat (i + 1)) (ls' := #[.val (.ref b), .val (.int (Int32.ofNat (i + 1))), .val (.int (Int32.ofNat n)), .val (.ref t), .val (.int (Int32.ofNat i))]) rfl rfl (own_succ i) rfl ?_
      refine g_iinc W50 dU0_26 (pc' := 29) (v := Int32.ofNat (i + 1)) (ls' := #[.val (.ref b), .val (.int (Int32.ofNat (i + 1))), .val (.int (Int32.ofNat n)), .val (.ref t), .val (.int (Int32.ofNat (i + 1)))]) rfl rfl (own_succ i) rfl ?_
      refine g_goto W50 dU0_29 (pc' := 8) (by decide) (by decide) ?_
      exact ih (i + 1) T47 h48 ht hts (by omega) (own_ext_keep X qK (by intro y hy; rw [List.mem_singleton.mp hy]; exact ht)) qA W50
  have ef : entryFrame m #[(.ref b), (.int (0 : Int32)), (.int (Int32.ofNat n))] 5 = mkF m 0 #[.val (.ref b), .val (.int (0 : Int32)), .val (.int (Int32.ofNat n)), .unset, .unset] [] := own_entry m [(.ref b), (.int (0 : Int32)), (.int (Int32.ofNat n))] 5 (by simp [Value.category]) rfl
  rw [ef]
  refine g_iloadN W0 dU0_0 (pc' := 1) rfl rfl ?_
  refine g_static W0 dU0_1 (pc' := 4) rfl (hw _ (List.mem_of_getElem? (i := 115) rfl)) (hw _ (List.mem_of_getElem? (i := 116) rfl)) (hw _ (List.mem_of_getElem? (i := 19) rfl)) (hw _ (List.mem_of_getElem? (i := 117) rfl)) (by decide) (con_nbf l Z a0 hw hEL n h0 hcap) pd__I__B (argsL := [(.int (Int32.ofNat n))]) (st := []) rfl rfl rfl rfl (by decide) (w := 0) (Nat.le_of_eq rfl) (by decide) (by decide) (by decide) (by simp) (fun q hq => nomatch hq) ?_
  intro v53 T54 h55 S58 q56 W59
  obtain ⟨t, kb, rfl, X, ht, tS, A⟩ := q56
  refine g_astoreN W59 dU0_4 (pc' := 5) rfl (ls' := #[.val (.ref b), .val (.int (0 : Int32)), .val (.int (Int32.ofNat n)), .val (.ref t), .unset]) rfl rfl ?_
  refine g_iconst W59 dU0_5 (pc' := 6) rfl (v := 0) rfl ?_
  refine g_istore W59 dU0_6 (pc' := 8) rfl (ls' := #[.val (.ref b), .val (.int (0 : Int32)), .val (.int (Int32.ofNat n)), .val (.ref t), .val (.int (0 : Int32))]) rfl ?_
  exact loop t kb n 0 T54 h55 ht (by rw [hs]; exact ht) (by omega) X (by rw [own_wide0]; exact A) (W59.sf (SF' := [t]) (fun x hx => by rw [List.mem_singleton.mp hx]; exact List.mem_append_left _ tS))
set_option maxRecDepth 65536 in
set_option maxHeartbeats 4000000 in
theorem con_cmp3 (l : Launch) (Z : State) (a0 : Array Value) (hw : ∀ d ∈ tables_1, d.before a0 Z = true) (hEL : EW Z a0 consts_1) (b : Addr) (kC : ClassId) (cs : List Int32) (dv : Value) (n : Nat) (h0 : Heap) (O : Ext Z.heap h0) (SA : Sta Z Z.heap "java/lang/StringUTF16" "$assertionsDisabled" "Z" (.int 1)) (SH : Sta Z Z.heap "java/lang/StringUTF16" "HI_BYTE_SHIFT" "I" (.int 0)) (SL : Sta Z Z.heap "java/lang/StringUTF16" "LO_BYTE_SHIFT" "I" (.int 8)) (hn : cs.length = n) (hcap : n ≤ 4) (K : Arv Z h0 b kC .char (Int32.ofNat n) (cs.map Value.int) dv) (hb : ∀ c ∈ cs, ¬ c < 0 ∧ ¬ (65535 : Int32) < c) :
    Ocon l Z consts_1 (⟨"java/lang/StringUTF16", "compress", "([CII)[B"⟩ : MethodName) jdk_52_method_16_code 6 (some (.array .byte)) [] ({ frames := 3, cells := 2, slots := 12, locals := 40 } : Room) #[(.ref b), (.int (0 : Int32)), (.int (Int32.ofNat n))] h0 [] [] (fun v h _ => ∃ (t : Addr) (kb : ClassId) (cd N2 : Int32) (vs : List Value), v = some (.ref t) ∧ Ext h0 h ∧ h0.size ≤ t ∧ Arv Z h t kb .byte N2 vs (.int 0) ∧ StrChars.Road.CodA cs cd N2 vs) := by
  refine own_con (a0 := a0) hEL (plainFor_of_name pn_java_lang_StringUTF16) ?_
  intro p e s m below meth c T hs W0
  have ef : entryFrame m #[(.ref b), (.int (0 : Int32)), (.int (Int32.ofNat n))] 6 = mkF m 0 #[.val (.ref b), .val (.int (0 : Int32)), .val (.int (Int32.ofNat n)), .unset, .unset, .unset] [] := own_entry m [(.ref b), (.int (0 : Int32)), (.int (Int32.ofNat n))] 6 (by simp [Value.category]) rfl
  rw [ef]
  have hcl : (Int32.ofNat n).toNatClampNeg = n := own_clamp (by omega)
  have hcl2 : (Int32.ofNat (2 * n)).toNatClampNeg = 2 * n := own_clamp (by omega)
  refine g_iloadN W0 dS1_0 (pc' := 1) rfl rfl ?_
  refine g_newP W0 dS1_1 (pc' := 3) (cap := 4) rfl (ty := .byte) (dv := (.int 0)) rfl rfl (hw _ (List.mem_of_getElem? (i := 1) rfl)) (own_nn (by omega)) (by rw [hcl]; exact hcap) (by decide) (by decide) (by decide) ?_
  intro T60 h61 cA62 E63 A64 W65
  obtain ⟨a66, g67⟩ : ∃ z, z = h0.size := ⟨_, rfl⟩
  rw [← g67] at A64 W65 ⊢
  refine g_astoreN W65 dS1_3 (pc' := 4) rfl (ls' := #[.val (.ref b), .val (.int (0 : Int32)), .val (.int (Int32.ofNat n)), .val (.ref a66), .unset, .unset]) rfl rfl ?_
  refine g_aloadN W65 dS1_4 (pc' := 5) rfl rfl rfl ?_
  refine g_iloadN W65 dS1_5 (pc' := 6) rfl rfl ?_
  refine g_aloadN W65 dS1_6 (pc' := 7) rfl rfl rfl ?_
  refine g_iconst W65 dS1_7 (pc' := 8) rfl (v := 0) rfl ?_
  refine g_iloadN W65 dS1_8 (pc' := 9) rfl rfl ?_
  have hne : b ≠ a66 := Nat.ne_of_lt (by rw [g67]; exact K.lt)
  refine g_static W65 dS1_9 (pc' := 12) rfl (hw _ (List.mem_of_getElem? (i := 21) rfl)) (hw _ (List.mem_of_getElem? (i := 22) rfl)) (hw _ (List.mem_of_getElem? (i := 19) rfl)) (hw _ (List.mem_of_getElem? (i := 23) rfl)) (by decide) (con_cmp5 l Z a0 hw hEL b a66 kC cA62 cs dv n h61 hn hcap (K.ext E63) (own_pad0 n A64) hne) pd___CI_BII_I (argsL := [(.ref b), (.int (0 : Int32)), (.ref a66), (.int (0 : Int32)), (.int (Int32.ofNat n))]) (st := []) rfl rfl rfl rfl (by decide) (w := 0) (Nat.le_of_eq rfl) (by decide) (by decide) (by decide) (by simp) (fun q hq => Or.inr (by obtain ⟨i, -, rfl⟩ := List.mem_map.mp hq; show s.heap.size ≤ a66; rw [g67]; exact W0.grown)) ?_
  intro v68 T69 h70 S73 q71 W74
  have W72 := W74.sf (SF' := [a66]) (fun _ hx => List.mem_append_right _ hx)
  obtain ⟨r, hr1, rfl, hK, hr2, hr3, hD⟩ := q71
  have X1 : Ext h0 h70 := own_ext_keep E63 hK (by intro x hx; rw [List.mem_singleton.mp hx, g67]; exact Nat.le_refl _)
  refine g_istore W72 dS1_12 (pc' := 14) rfl (ls' := #[.val (.ref b), .val (.int (0 : Int32)), .val (.int (Int32.ofNat n)), .val (.ref a66), .val (.int (Int32.ofNat r)), .unset]) rfl ?_
  refine g_iload W72 dS1_14 (pc' := 16) rfl rfl ?_
  refine g_iloadN W72 dS1_16 (pc' := 17) rfl rfl ?_
  rcases Nat.lt_or_ge r n with hrn | hrn
  · skip
    refine g_icN W72 dS1_17 (pc' := 20) (feq (fun z => Nat.ne_of_lt hrn (own_inj (by omega) (by omega) z))).1 rfl ?_
    refine g_aloadN W72 dS1_20 (pc' := 21) rfl rfl rfl ?_
    refine g_iloadN W72 dS1_21 (pc' := 22) rfl rfl ?_
    refine g_iloadN W72 dS1_22 (pc' := 23) rfl rfl ?_
    refine g_static W72 dS1_23 (pc' := 26) rfl (hw _ (List.mem_of_getElem? (i := 112) rfl)) (hw _ (List.mem_of_getElem? (i := 113) rfl)) (hw _ (List.mem_of_getElem? (i := 19) rfl)) (hw _ (List.mem_of_getElem? (i := 114) rfl)) (by decide) (con_tob l Z a0 hw hEL b kC cs dv n h70 (own_ext_tr O X1) SA SH SL hn hcap (K.ext X1)) pd___CII__B (argsL := [(.ref b), (.int (0 : Int32)), (.int (Int32.ofNat n))]) (st := []) rfl rfl rfl rfl (by decide) (w := 0) (Nat.le_of_eq rfl) (by decide) (by decide) (by decide) (by simp) (fun q hq => nomatch hq) ?_
    intro v75 T76 h77 S80 q78 W81
    have W79 := W81.sf (SF' := [a66]) (fun _ hx => List.mem_append_right _ hx)
    obtain ⟨t2, kb2, rfl, X2, ht2, A2⟩ := q78
    have X3 := own_ext_tr X1 X2
    refine g_astore W79 dS1_26 (pc' := 28) rfl (ls' := #[.val (.ref b), .val (.int (0 : Int32)), .val (.int (Int32.ofNat n)), .val (.ref a66), .val (.int (Int32.ofNat r)), .val (.ref t2)]) rfl rfl ?_
    refine g_aload W79 dS1_28 (pc' := 30) rfl rfl rfl ?_
    refine g_iload W79 dS1_30 (pc' := 32) rfl rfl ?_
    have hrc : r < cs.length := by omega
    refine g_static W79 dS1_32 (pc' := 35) rfl (hw _ (List.mem_of_getElem? (i := 128) rfl)) (hw _ (List.mem_of_getElem? (i := 129) rfl)) (hw _ (List.mem_of_getElem? (i := 19) rfl)) (hw _ (List.mem_of_getElem? (i := 130) rfl)) (by decide) (con_getc l Z a0 hw hEL t2 kb2 _ _ r (cs.getD r 0) h77 (own_ext_tr O X3) SA SH SL A2 (by rw [hcl2]; omega) (by omega) (own_wide_lo cs hrc) (own_wide_hi cs hrc) (hb _ (own_mem hrc))) pd___BI_C (argsL := [(.ref t2), (.int (Int32.ofNat r))]) (st := []) rfl rfl rfl rfl (by decide) (w := 0) (Nat.le_of_eq rfl) (by decide) (by decide) (by decide) (by simp) (fun q hq => nomatch hq) ?_
    intro v82 T83 h84 S87 q85 W88
    have W86 := W88.sf (SF' := [a66]) (fun _ hx => List.mem_append_right _ hx)
    obtain ⟨rfl, rfl⟩ := q85
    refine g_sipush W86 dS1_35 (pc' := 38) rfl (v := 255) rfl ?_
    refine g_icY W86 dS1_38 (pc' := 54) (tlt (hr3 hrn)).2.2.1 (by decide) (by decide) ?_
    refine g_aload W86 dS1_54 (pc' := 56) rfl rfl rfl ?_
    exact g_aret W86 dS1_56 rfl rfl rfl rfl ⟨t2, kb2, 1, _, _, rfl, X3, (by first | exact Nat.le_trans X1.1 ht2 | (rw [g67]; exact Nat.le_trans X1.1 ht2)), A2, Or.inr ⟨rfl, by rw [hn], rfl, _, own_mem hrc, hr3 hrn⟩⟩
  · skip
    obtain rfl : n = r := by omega
    refine g_icY W72 dS1_17 (pc' := 57) (teq rfl).1 (by decide) (by decide) ?_
    rw [own_cmpn cs hn] at hD
    refine g_aloadN W72 dS1_57 (pc' := 58) rfl rfl rfl ?_
    exact g_aret W72 dS1_58 rfl rfl rfl rfl ⟨a66, _, 0, _, _, rfl, X1, (by first | exact Nat.le_refl _ | exact Nat.le_of_eq g67.symm), hD, Or.inl ⟨rfl, by rw [hn], rfl, fun c hc => own_all hn hr2 c hc⟩⟩
set_option maxRecDepth 65536 in
set_option maxHeartbeats 4000000 in
theorem con_cod (l : Launch) (Z : State) (a0 : Array Value) (hw : ∀ d ∈ tables_1, d.before a0 Z = true) (hEL : EW Z a0 consts_1) (t : Addr) (kb : ClassId) (cs : List Int32) (cd N2 : Int32) (vs : List Value) (dv : Value) (n : Nat) (h0 : Heap) (hn : cs.length = n) (hcap : n ≤ 4) (K : Arv Z h0 t kb .byte N2 vs dv) (hc : StrChars.Road.CodA cs cd N2 vs) :
    Ocon l Z consts_1 (⟨"java/lang/StringUTF16", "coderFromArrayLen", "([BI)B"⟩ : MethodName) jdk_52_method_15_code 2 (some .byte) [] ({ frames := 0, cells := 0, slots := 0, locals := 0 } : Room) #[(.ref t), (.int (Int32.ofNat n))] h0 [] [] (fun v h _ => v = some (.int cd) ∧ (cd = 0 ∨ cd = 1) ∧ h0 = h) := by
  refine own_con (a0 := a0) hEL (plainFor_of_name pn_java_lang_StringUTF16) ?_
  intro p e s m below meth c T hs W0
  have ef : entryFrame m #[(.ref t), (.int (Int32.ofNat n))] 2 = mkF m 0 #[.val (.ref t), .val (.int (Int32.ofNat n))] [] := own_entry m [(.ref t), (.int (Int32.ofNat n))] 2 (by simp [Value.category]) rfl
  rw [ef]
  refine g_iloadN W0 dS2_0 (pc' := 1) rfl rfl ?_
  refine g_aloadN W0 dS2_1 (pc' := 2) rfl rfl rfl ?_
  refine g_alen W0 dS2_2 (pc' := 3) rfl K ?_
  refine g_isub W0 dS2_3 (pc' := 4) rfl ?_
  refine g_bipush W0 dS2_4 (pc' := 6) rfl (v := 31) rfl ?_
  refine g_iushr W0 dS2_6 (pc' := 7) rfl ?_
  refine g_i2b W0 dS2_7 (pc' := 8) rfl ?_
  rcases hc with ⟨rfl, rfl, -, -⟩ | ⟨rfl, rfl, -, c1, hc1, -⟩
  · skip
    rw [show ((XT.ushr ((Int32.ofNat n) - (Int32.ofNat cs.length)) (31 : Int32))).toInt8.toInt32 = 0 from by rw [hn, Int32.sub_self]; decide]
    exact g_iret W0 dS2_8 rfl (Or.inr (Or.inr (Or.inl rfl))) rfl ⟨rfl, Or.inl rfl, rfl⟩
  · skip
    rw [show ((XT.ushr ((Int32.ofNat n) - (Int32.ofNat (2 * cs.length))) (31 : Int32))).toInt8.toInt32 = 1 from by subst hn; exact own_neg (List.length_pos_of_mem hc1) (by omega)]
    exact g_iret W0 dS2_8 rfl (Or.inr (Or.inr (Or.inl rfl))) rfl ⟨rfl, Or.inr rfl, rfl⟩
theorem pn_java_lang_String : plainName "java/lang/String" = true := by first | (simp [plainName, overriddenIn]; done) | decide +kernel
set_option maxRecDepth 65536 in
set_option maxHeartbeats 4000000 in
theorem con_new4 (l : Launch) (Z : State) (a0 : Array Value) (hw : ∀ d ∈ tables_1, d.before a0 Z = true) (hEL : EW Z a0 consts_1) (x b : Addr) (kC : ClassId) (cs : List Int32) (dv v0 c0 : Value) (z : Int32) (n : Nat) (h0 : Heap) (O : Ext Z.heap h0) (SA : Sta Z Z.heap "java/lang/StringUTF16" "$assertionsDisabled" "Z" (.int 1)) (SH : Sta Z Z.heap "java/lang/StringUTF16" "HI_BYTE_SHIFT" "I" (.int 0)) (SL : Sta Z Z.heap "java/lang/StringUTF16" "LO_BYTE_SHIFT" "I" (.int 8)) (hx : Z.heap.size ≤ x) (hn : cs.length = n) (hcap : n ≤ 4) (E : Exa Z h0 x "java/lang/String") (FV : Fld Z h0 x "java/lang/String" "value" "[B" v0) (FC : Fld Z h0 x "java/lang/String" "coder" "B" c0) (K : Arv Z h0 b kC .char (Int32.ofNat n) (cs.map Value.int) dv) (hb : ∀ c ∈ cs, ¬ c < 0 ∧ ¬ (65535 : Int32) < c) (SC : Sta Z Z.heap "java/lang/String" "COMPACT_STRINGS" "Z" (.int z)) (hz : ¬ z = 0) :
    Ocon l Z consts_1 (⟨"java/lang/String", "<init>", "([CIILjava/lang/Void;)V"⟩ : MethodName) jdk_42_method_149_code 6 none [] ({ frames := 4, cells := 4, slots := 20, locals := 57 } : Room) #[(.ref x), (.ref b), (.int (0 : Int32)), (.int (Int32.ofNat n)), .null] h0 [x] [(⟨x, RoadKit.slotOf Z "java/lang/String" "coder" "B"⟩ : Loc), (⟨x, RoadKit.slotOf Z "java/lang/String" "value" "[B"⟩ : Loc)] (fun v h _ => v = none ∧ Keep h0 h [x] ∧ OStr Z h x cs) := by
  refine own_con (a0 := a0) hEL (plainFor_of_name pn_java_lang_String) ?_
  intro p e s m below meth c T hs W0
  have ef : entryFrame m #[(.ref x), (.ref b), (.int (0 : Int32)), (.int (Int32.ofNat n)), .null] 6 = mkF m 0 #[.val (.ref x), .val (.ref b), .val (.int (0 : Int32)), .val (.int (Int32.ofNat n)), .val .null, .unset] [] := own_entry m [(.ref x), (.ref b), (.int (0 : Int32)), (.int (Int32.ofNat n)), .null] 6 (by simp [Value.category]) rfl
  rw [ef]
  have hsl : RoadKit.slotOf Z "java/lang/String" "value" "[B" ≠ RoadKit.slotOf Z "java/lang/String" "coder" "B" := slot_ne (t := .array .byte) (t' := .byte) (Or.inr (hw _ (List.mem_of_getElem? (i := 30) rfl))) (Or.inr (hw _ (List.mem_of_getElem? (i := 28) rfl))) (by decide) (by decide) (by decide)
  have hSt : ∀ a ∈ Bundle.stringAtoms, a.before a0 Z = true := own_str hw
  refine g_aloadN W0 dS3_0 (pc' := 1) rfl rfl rfl ?_
  refine g_initO W0 dS3_1 (pc' := 4) rfl (hw _ (List.mem_of_getElem? (i := 13) rfl)) (hw _ (List.mem_of_getElem? (i := 14) rfl)) (hw _ (List.mem_of_getElem? (i := 15) rfl)) rfl (by decide) (w := 0) (Nat.le_refl _) (by decide) ?_
  intro T89 W90
  refine g_iloadN W90 dS3_4 (pc' := 5) rfl rfl ?_
  rcases Nat.eq_zero_or_pos n with hn0 | hn0
  · skip
    subst hn0
    obtain rfl : cs = [] := List.length_eq_zero_iff.mp hn
    refine g_ifN W90 dS3_5 (pc' := 8) (teq (rfl : Int32.ofNat 0 = 0)).2 rfl ?_
    refine g_aloadN W90 dS3_8 (pc' := 9) rfl rfl rfl ?_
    refine g_ldcS W90 dS3_9 (pc' := 11) (text := "") (vs := []) (z := 0) (n := 0) rfl (hw _ (List.mem_of_getElem? (i := 142) rfl)) hSt (by decide) ⟨by decide, rfl⟩ (by decide) rfl (by decide) (by decide) (by decide) (by decide) ?_
    intro T91 h92 a93 b94 k95 E96 f97 f98 f99 f100 W101
    refine g_getF W101 dS3_11 (pc' := 14) rfl (hw _ (List.mem_of_getElem? (i := 29) rfl)) f99 ?_
    intro T103 W102
    refine g_putF W102 dS3_14 (pc' := 17) rfl (hw _ (List.mem_of_getElem? (i := 29) rfl)) (FV.ext E96) (E.ext E96) (Or.inr ⟨(hw _ (List.mem_of_getElem? (i := 30) rfl)), rfl, rfl⟩) (hw _ (List.mem_of_getElem? (i := 4) rfl)) (ty := .array .byte) (by decide) rfl rfl (by simp) (Or.inl (by simp)) ?_
    intro T104 h105 w106 W107
    refine g_aloadN W107 dS3_17 (pc' := 18) rfl rfl rfl ?_
    refine g_ldcS W107 dS3_18 (pc' := 20) (text := "") (vs := []) (z := 0) (n := 0) rfl (hw _ (List.mem_of_getElem? (i := 142) rfl)) hSt (by decide) ⟨by decide, rfl⟩ (by decide) rfl (by decide) (by decide) (by decide) (by decide) ?_
    intro T108 h109 a110 b111 k112 E113 f114 f115 f116 f117 W118
    refine g_getF W118 dS3_20 (pc' := 23) rfl (hw _ (List.mem_of_getElem? (i := 27) rfl)) f115 ?_
    intro T120 W119
    refine g_putF W119 dS3_23 (pc' := 26) rfl (hw _ (List.mem_of_getElem? (i := 27) rfl)) (((FC.ext E96).other w106 (Or.inr (Ne.symm hsl))).ext E113) (((E.ext E96).wr w106).ext E113) (Or.inr ⟨(hw _ (List.mem_of_getElem? (i := 28) rfl)), rfl, rfl⟩) (hw _ (List.mem_of_getElem? (i := 4) rfl)) (ty := .byte) (by decide) rfl rfl (by simp) (Or.inl (by simp)) ?_
    intro T121 h122 w123 W124
    have hne1 : b94 ≠ x := by
      obtain ⟨cl, A1, -⟩ := f100
      exact Ne.symm (ne_arr (E.ext E96) (hw _ (List.mem_of_getElem? (i := 4) rfl)) A1)
    exact g_return W124 dS3_26 rfl ⟨rfl, (((own_keep_ext E96).wr w106 (Or.inl (by simp))).ext E113).wr w123 (Or.inl (by simp)), (((E.ext E96).wr w106).ext E113).wr w123, fun c hc => (nomatch hc), b94, k95, 0, 0, [], ((((FV.ext E96).same w106).ext E113).other w123 (Or.inr hsl)), (((FC.ext E96).other w106 (Or.inr (Ne.symm hsl))).ext E113).same w123, ((f100.other w106 hne1).ext E113).other w123 hne1, Or.inl ⟨rfl, rfl, rfl, fun c hc => (nomatch hc)⟩⟩
  · skip
    have hnz : ¬ Int32.ofNat n = 0 := Jvm.Free.XT.nz32 (by omega) hn0
    refine g_ifY W90 dS3_5 (pc' := 27) (feq hnz).2 (by decide) (by decide) ?_
    refine g_getS W90 dS3_27 (pc' := 30) rfl (hw _ (List.mem_of_getElem? (i := 16) rfl)) (SC.ext O) ?_
    intro T126 W125
    refine g_ifN W125 dS3_30 (pc' := 33) (feq hz).1 rfl ?_
    refine g_aloadN W125 dS3_33 (pc' := 34) rfl rfl rfl ?_
    refine g_iloadN W125 dS3_34 (pc' := 35) rfl rfl ?_
    refine g_iloadN W125 dS3_35 (pc' := 36) rfl rfl ?_
    refine g_static W125 dS3_36 (pc' := 39) rfl (hw _ (List.mem_of_getElem? (i := 17) rfl)) (hw _ (List.mem_of_getElem? (i := 18) rfl)) (hw _ (List.mem_of_getElem? (i := 19) rfl)) (hw _ (List.mem_of_getElem? (i := 20) rfl)) (by decide) (con_cmp3 l Z a0 hw hEL b kC cs dv n h0 O SA SH SL hn hcap K hb) pd___CII__B (argsL := [(.ref b), (.int (0 : Int32)), (.int (Int32.ofNat n))]) (st := []) rfl rfl rfl rfl (by decide) (w := 0) (Nat.le_of_eq rfl) (by decide) (by decide) (by decide) (by simp) (fun q hq => nomatch hq) ?_
    intro v127 T128 h129 S132 q130 W133
    have W131 := W133.sf (SF' := [x]) (fun _ hx => List.mem_append_right _ hx)
    obtain ⟨t, kb, cd, N2, vs, rfl, X, nt, A, CA⟩ := q130
    refine g_astore W131 dS3_39 (pc' := 41) rfl (ls' := #[.val (.ref x), .val (.ref b), .val (.int (0 : Int32)), .val (.int (Int32.ofNat n)), .val .null, .val (.ref t)]) rfl rfl ?_
    refine g_aloadN W131 dS3_41 (pc' := 42) rfl rfl rfl ?_
    refine g_aload W131 dS3_42 (pc' := 44) rfl rfl rfl ?_
    refine g_iloadN W131 dS3_44 (pc' := 45) rfl rfl ?_
    refine g_static W131 dS3_45 (pc' := 48) rfl (hw _ (List.mem_of_getElem? (i := 24) rfl)) (hw _ (List.mem_of_getElem? (i := 25) rfl)) (hw _ (List.mem_of_getElem? (i := 19) rfl)) (hw _ (List.mem_of_getElem? (i := 26) rfl)) (by decide) (con_cod l Z a0 hw hEL t kb cs cd N2 vs _ n h129 hn hcap A CA) pd___BI_B (argsL := [(.ref t), (.int (Int32.ofNat n))]) (st := [(.ref x)]) rfl rfl rfl rfl (by decide) (w := 1) (Nat.le_of_eq rfl) (by decide) (by decide) (by decide) (by simp) (fun q hq => nomatch hq) ?_
    intro v134 T135 h136 S139 q137 W140
    have W138 := W140.sf (SF' := [x]) (fun _ hx => List.mem_append_right _ hx)
    obtain ⟨rfl, hcd, rfl⟩ := q137
    have hnx : t ≠ x := Nat.ne_of_gt (Nat.lt_of_lt_of_le E.lt nt)
    refine g_putF W138 dS3_48 (pc' := 51) rfl (hw _ (List.mem_of_getElem? (i := 27) rfl)) (FC.ext X) (E.ext X) (Or.inr ⟨(hw _ (List.mem_of_getElem? (i := 28) rfl)), rfl, rfl⟩) (hw _ (List.mem_of_getElem? (i := 4) rfl)) (ty := .byte) (by decide) (by rcases hcd with rfl | rfl <;> rfl) (by rcases hcd with rfl | rfl <;> rfl) (by simp) (Or.inl (by simp)) ?_
    intro T141 h142 w143 W144
    refine g_aloadN W144 dS3_51 (pc' := 52) rfl rfl rfl ?_
    refine g_aload W144 dS3_52 (pc' := 54) rfl rfl rfl ?_
    refine g_putF W144 dS3_54 (pc' := 57) rfl (hw _ (List.mem_of_getElem? (i := 29) rfl)) ((FV.ext X).other w143 (Or.inr hsl)) ((E.ext X).wr w143) (Or.inr ⟨(hw _ (List.mem_of_getElem? (i := 30) rfl)), rfl, rfl⟩) (hw _ (List.mem_of_getElem? (i := 4) rfl)) (ty := .array .byte) (by decide) rfl rfl (by simp) (Or.inl (by simp)) ?_
    intro T145 h146 w147 W148
    exact g_return W148 dS3_57 rfl ⟨rfl, ((own_keep_ext X).wr w143 (Or.inl (by simp))).wr w147 (Or.inl (by simp)), ((E.ext X).wr w143).wr w147, hb, t, kb, cd, N2, vs, ((FV.ext X).other w143 (Or.inr hsl)).same w147, ((FC.ext X).same w143).other w147 (Or.inr (Ne.symm hsl)), (A.other w143 hnx).other w147 hnx, CA⟩
set_option maxRecDepth 65536 in
set_option maxHeartbeats 4000000 in
theorem con_new1 (l : Launch) (Z : State) (a0 : Array Value) (hw : ∀ d ∈ tables_1, d.before a0 Z = true) (hEL : EW Z a0 consts_1) (x b : Addr) (kC : ClassId) (cs : List Int32) (dv v0 c0 : Value) (z : Int32) (n : Nat) (h0 : Heap) (O : Ext Z.heap h0) (SA : Sta Z Z.heap "java/lang/StringUTF16" "$assertionsDisabled" "Z" (.int 1)) (SH : Sta Z Z.heap "java/lang/StringUTF16" "HI_BYTE_SHIFT" "I" (.int 0)) (SL : Sta Z Z.heap "java/lang/StringUTF16" "LO_BYTE_SHIFT" "I" (.int 8)) (hx : Z.heap.size ≤ x) (hn : cs.length = n) (hcap : n ≤ 4) (E : Exa Z h0 x "java/lang/String") (FV : Fld Z h0 x "java/lang/String" "value" "[B" v0) (FC : Fld Z h0 x "java/lang/String" "coder" "B" c0) (K : Arv Z h0 b kC .char (Int32.ofNat n) (cs.map Value.int) dv) (hb : ∀ c ∈ cs, ¬ c < 0 ∧ ¬ (65535 : Int32) < c) (SC : Sta Z Z.heap "java/lang/String" "COMPACT_STRINGS" "Z" (.int z)) (hz : ¬ z = 0) :
    Ocon l Z consts_1 (⟨"java/lang/String", "<init>", "([C)V"⟩ : MethodName) jdk_42_method_3_code 2 none [] ({ frames := 5, cells := 4, slots := 20, locals := 74 } : Room) #[(.ref x), (.ref b)] h0 [x] [(⟨x, RoadKit.slotOf Z "java/lang/String" "coder" "B"⟩ : Loc), (⟨x, RoadKit.slotOf Z "java/lang/String" "value" "[B"⟩ : Loc)] (fun v h _ => v = none ∧ Keep h0 h [x] ∧ OStr Z h x cs) := by
  refine own_con (a0 := a0) hEL (plainFor_of_name pn_java_lang_String) ?_
  intro p e s m below meth c T hs W0
  have ef : entryFrame m #[(.ref x), (.ref b)] 2 = mkF m 0 #[.val (.ref x), .val (.ref b)] [] := own_entry m [(.ref x), (.ref b)] 2 (by simp [Value.category]) rfl
  rw [ef]
  refine g_aloadN W0 dS4_0 (pc' := 1) rfl rfl rfl ?_
  refine g_aloadN W0 dS4_1 (pc' := 2) rfl rfl rfl ?_
  refine g_iconst W0 dS4_2 (pc' := 3) rfl (v := 0) rfl ?_
  refine g_aloadN W0 dS4_3 (pc' := 4) rfl rfl rfl ?_
  refine g_alen W0 dS4_4 (pc' := 5) rfl K ?_
  refine g_aconst_null W0 dS4_5 (pc' := 6) rfl ?_
  refine g_special W0 dS4_6 (pc' := 9) rfl rfl (hw _ (List.mem_of_getElem? (i := 9) rfl)) (hw _ (List.mem_of_getElem? (i := 10) rfl)) (hw _ (List.mem_of_getElem? (i := 5) rfl)) (hw _ (List.mem_of_getElem? (i := 12) rfl)) (by decide) (con_new4 l Z a0 hw hEL x b kC cs dv v0 c0 z n h0 O SA SH SL hx hn hcap E FV FC K hb SC hz) pd___CIILjava_lang_Void__V (argsL := [(.ref b), (.int (0 : Int32)), (.int (Int32.ofNat n)), .null]) (st := []) rfl rfl rfl rfl (by decide) (w := 0) (Nat.le_of_eq rfl) (by decide) (by decide) (by decide) (by simp) (fun q hq => Or.inl hq) ?_
  intro v149 T150 h151 S154 q152 W155
  have W153 := W155.sf (SF' := [x]) (fun _ hx => List.mem_append_right _ hx)
  obtain ⟨rfl, qK, qS⟩ := q152
  exact g_return W153 dS4_9 rfl ⟨rfl, qK, qS⟩
theorem dK0_0 : decode jdk_41_method_11_code 0 = .ok (.iload_n 0, 1) := by decide +kernel
theorem dK0_1 : decode jdk_41_method_11_code 1 = .ok (.ifCond .lt 8, 3) := by decide +kernel
theorem dK0_4 : decode jdk_41_method_11_code 4 = .ok (.iload_n 0, 1) := by decide +kernel
theorem dK0_5 : decode jdk_41_method_11_code 5 = .ok (.iload_n 1, 1) := by decide +kernel
theorem dK0_6 : decode jdk_41_method_11_code 6 = .ok (.if_icmp .lt 10, 3) := by decide +kernel
theorem dK0_9 : decode jdk_41_method_11_code 9 = .ok (.aload_n 2, 1) := by decide +kernel
theorem dK0_10 : decode jdk_41_method_11_code 10 = .ok (.iload_n 0, 1) := by decide +kernel
theorem dK0_11 : decode jdk_41_method_11_code 11 = .ok (.iload_n 1, 1) := by decide +kernel
theorem dK0_12 : decode jdk_41_method_11_code 12 = .ok (.invokestatic 95, 3) := by decide +kernel
theorem dK0_15 : decode jdk_41_method_11_code 15 = .ok (.athrow, 1) := by decide +kernel
theorem dK0_16 : decode jdk_41_method_11_code 16 = .ok (.iload_n 0, 1) := by decide +kernel
theorem dK0_17 : decode jdk_41_method_11_code 17 = .ok (.ireturn, 1) := by decide +kernel
theorem dK1_0 : decode jdk_42_method_155_code 0 = .ok (.iload_n 0, 1) := by decide +kernel
theorem dK1_1 : decode jdk_42_method_155_code 1 = .ok (.iload_n 1, 1) := by decide +kernel
theorem dK1_2 : decode jdk_42_method_155_code 2 = .ok (.getstatic 1053, 3) := by decide +kernel
theorem dK1_5 : decode jdk_42_method_155_code 5 = .ok (.invokestatic 1059, 3) := by decide +kernel
theorem dK1_8 : decode jdk_42_method_155_code 8 = .ok (.pop, 1) := by decide +kernel
theorem dK1_9 : decode jdk_42_method_155_code 9 = .ok (.return_, 1) := by decide +kernel
theorem pd__IILjava_util_function_BiFunction__I : parseMethodDescriptor "(IILjava/util/function/BiFunction;)I" = some ⟨[.int, .int, (.object "java/util/function/BiFunction")], (some .int)⟩ := by decide +kernel
theorem pd__II_V : parseMethodDescriptor "(II)V" = some ⟨[.int, .int], none⟩ := by decide +kernel
theorem pn_jdk_internal_util_Preconditions : plainName "jdk/internal/util/Preconditions" = true := by first | (simp [plainName, overriddenIn]; done) | decide +kernel
set_option maxRecDepth 65536 in
set_option maxHeartbeats 4000000 in
theorem con_pci (l : Launch) (Z : State) (a0 : Array Value) (hw : ∀ d ∈ tables_1, d.before a0 Z = true) (hEL : EW Z a0 consts_1) (i n : Nat) (fm : Value) (hfm : fm.isRef = true) (h0 : Heap) (hi : i < n) (hn : n < 2 ^ 30) :
    Ocon l Z consts_1 (⟨"jdk/internal/util/Preconditions", "checkIndex", "(IILjava/util/function/BiFunction;)I"⟩ : MethodName) jdk_41_method_11_code 3 (some .int) [] ({ frames := 0, cells := 0, slots := 0, locals := 0 } : Room) #[(.int (Int32.ofNat i)), (.int (Int32.ofNat n)), fm] h0 [] [] (fun v h _ => v = some (.int (Int32.ofNat i)) ∧ h0 = h) := by
  refine own_con (a0 := a0) hEL (plainFor_of_name pn_jdk_internal_util_Preconditions) ?_
  intro p e s m below meth c T hs W0
  rcases ref_cases hfm with rfl | ⟨fa, rfl⟩
  · skip
    have ef : entryFrame m #[(.int (Int32.ofNat i)), (.int (Int32.ofNat n)), .null] 3 = mkF m 0 #[.val (.int (Int32.ofNat i)), .val (.int (Int32.ofNat n)), .val .null] [] := own_entry m [(.int (Int32.ofNat i)), (.int (Int32.ofNat n)), .null] 3 (by simp [Value.category]) rfl
    rw [ef]
    refine g_iloadN W0 dK0_0 (pc' := 1) rfl rfl ?_
    refine g_ifN W0 dK0_1 (pc' := 4) (flt (own_nn (by omega))).1 rfl ?_
    refine g_iloadN W0 dK0_4 (pc' := 5) rfl rfl ?_
    refine g_iloadN W0 dK0_5 (pc' := 6) rfl rfl ?_
    refine g_icY W0 dK0_6 (pc' := 16) (tlt (own_lt hn hi)).1 (by decide) (by decide) ?_
    refine g_iloadN W0 dK0_16 (pc' := 17) rfl rfl ?_
    exact g_iret W0 dK0_17 rfl (Or.inl rfl) rfl ⟨rfl, rfl⟩
  · skip
    have ef : entryFrame m #[(.int (Int32.ofNat i)), (.int (Int32.ofNat n)), (.ref fa)] 3 = mkF m 0 #[.val (.int (Int32.ofNat i)), .val (.int (Int32.ofNat n)), .val (.ref fa)] [] := own_entry m [(.int (Int32.ofNat i)), (.int (Int32.ofNat n)), (.ref fa)] 3 (by simp [Value.category]) rfl
    rw [ef]
    refine g_iloadN W0 dK0_0 (pc' := 1) rfl rfl ?_
    refine g_ifN W0 dK0_1 (pc' := 4) (flt (own_nn (by omega))).1 rfl ?_
    refine g_iloadN W0 dK0_4 (pc' := 5) rfl rfl ?_
    refine g_iloadN W0 dK0_5 (pc' := 6) rfl rfl ?_
    refine g_icY W0 dK0_6 (pc' := 16) (tlt (own_lt hn hi)).1 (by decide) (by decide) ?_
    refine g_iloadN W0 dK0_16 (pc' := 17) rfl rfl ?_
    exact g_iret W0 dK0_17 rfl (Or.inl rfl) rfl ⟨rfl, rfl⟩
set_option maxRecDepth 65536 in
set_option maxHeartbeats 4000000 in
theorem con_sci (l : Launch) (Z : State) (a0 : Array Value) (hw : ∀ d ∈ tables_1, d.before a0 Z = true) (hEL : EW Z a0 consts_1) (i n : Nat) (fm : Value) (hfm : fm.isRef = true) (SF1 : Sta Z Z.heap "jdk/internal/util/Preconditions" "SIOOBE_FORMATTER" "Ljava/util/function/BiFunction;" fm) (h0 : Heap) (O : Ext Z.heap h0) (hi : i < n) (hn : n < 2 ^ 30) :
    Ocon l Z consts_1 (⟨"java/lang/String", "checkIndex", "(II)V"⟩ : MethodName) jdk_42_method_155_code 2 none [] ({ frames := 1, cells := 0, slots := 0, locals := 14 } : Room) #[(.int (Int32.ofNat i)), (.int (Int32.ofNat n))] h0 [] [] (fun v h _ => v = none ∧ h0 = h) := by
  refine own_con (a0 := a0) hEL (plainFor_of_name pn_java_lang_String) ?_
  intro p e s m below meth c T hs W0
  have ef : entryFrame m #[(.int (Int32.ofNat i)), (.int (Int32.ofNat n))] 2 = mkF m 0 #[.val (.int (Int32.ofNat i)), .val (.int (Int32.ofNat n))] [] := own_entry m [(.int (Int32.ofNat i)), (.int (Int32.ofNat n))] 2 (by simp [Value.category]) rfl
  rw [ef]
  refine g_iloadN W0 dK1_0 (pc' := 1) rfl rfl ?_
  refine g_iloadN W0 dK1_1 (pc' := 2) rfl rfl ?_
  refine g_getS W0 dK1_2 (pc' := 5) rfl (hw _ (List.mem_of_getElem? (i := 100) rfl)) (SF1.ext O) ?_
  intro T157 W156
  refine g_static W156 dK1_5 (pc' := 8) rfl (hw _ (List.mem_of_getElem? (i := 102) rfl)) (hw _ (List.mem_of_getElem? (i := 103) rfl)) (hw _ (List.mem_of_getElem? (i := 101) rfl)) (hw _ (List.mem_of_getElem? (i := 104) rfl)) (by decide) (con_pci l Z a0 hw hEL i n fm hfm h0 hi hn) pd__IILjava_util_function_BiFunction__I (argsL := [(.int (Int32.ofNat i)), (.int (Int32.ofNat n)), fm]) (st := []) rfl rfl rfl rfl (by decide) (w := 0) (Nat.le_of_eq rfl) (by decide) (by decide) (by decide) (by simp) (fun q hq => nomatch hq) ?_
  intro v158 T159 h160 S163 q161 W164
  have W162 := W164.sf (SF' := []) (fun _ hx => List.mem_append_right _ hx)
  obtain ⟨rfl, rfl⟩ := q161
  refine g_pop W162 dK1_8 (pc' := 9) rfl rfl ?_
  exact g_return W162 dK1_9 rfl ⟨rfl, rfl⟩
theorem dC0_0 : decode jdk_43_method_2_code 0 = .ok (.iload_n 1, 1) := by decide +kernel
theorem dC0_1 : decode jdk_43_method_2_code 1 = .ok (.aload_n 0, 1) := by decide +kernel
theorem dC0_2 : decode jdk_43_method_2_code 2 = .ok (.arraylength, 1) := by decide +kernel
theorem dC0_3 : decode jdk_43_method_2_code 3 = .ok (.invokestatic 9, 3) := by decide +kernel
theorem dC0_6 : decode jdk_43_method_2_code 6 = .ok (.aload_n 0, 1) := by decide +kernel
theorem dC0_7 : decode jdk_43_method_2_code 7 = .ok (.iload_n 1, 1) := by decide +kernel
theorem dC0_8 : decode jdk_43_method_2_code 8 = .ok (.baload, 1) := by decide +kernel
theorem dC0_9 : decode jdk_43_method_2_code 9 = .ok (.sipush 255, 3) := by decide +kernel
theorem dC0_12 : decode jdk_43_method_2_code 12 = .ok (.iand, 1) := by decide +kernel
theorem dC0_13 : decode jdk_43_method_2_code 13 = .ok (.i2c, 1) := by decide +kernel
theorem dC0_14 : decode jdk_43_method_2_code 14 = .ok (.ireturn, 1) := by decide +kernel
theorem dC1_0 : decode jdk_52_method_6_code 0 = .ok (.aload_n 0, 1) := by decide +kernel
theorem dC1_1 : decode jdk_52_method_6_code 1 = .ok (.arraylength, 1) := by decide +kernel
theorem dC1_2 : decode jdk_52_method_6_code 2 = .ok (.iconst 1, 1) := by decide +kernel
theorem dC1_3 : decode jdk_52_method_6_code 3 = .ok (.ishr, 1) := by decide +kernel
theorem dC1_4 : decode jdk_52_method_6_code 4 = .ok (.ireturn, 1) := by decide +kernel
theorem dC2_0 : decode jdk_52_method_91_code 0 = .ok (.iload_n 0, 1) := by decide +kernel
theorem dC2_1 : decode jdk_52_method_91_code 1 = .ok (.aload_n 1, 1) := by decide +kernel
theorem dC2_2 : decode jdk_52_method_91_code 2 = .ok (.invokestatic 48, 3) := by decide +kernel
theorem dC2_5 : decode jdk_52_method_91_code 5 = .ok (.invokestatic 414, 3) := by decide +kernel
theorem dC2_8 : decode jdk_52_method_91_code 8 = .ok (.return_, 1) := by decide +kernel
theorem dC3_0 : decode jdk_52_method_83_code 0 = .ok (.iload_n 1, 1) := by decide +kernel
theorem dC3_1 : decode jdk_52_method_83_code 1 = .ok (.aload_n 0, 1) := by decide +kernel
theorem dC3_2 : decode jdk_52_method_83_code 2 = .ok (.invokestatic 67, 3) := by decide +kernel
theorem dC3_5 : decode jdk_52_method_83_code 5 = .ok (.aload_n 0, 1) := by decide +kernel
theorem dC3_6 : decode jdk_52_method_83_code 6 = .ok (.iload_n 1, 1) := by decide +kernel
theorem dC3_7 : decode jdk_52_method_83_code 7 = .ok (.invokestatic 71, 3) := by decide +kernel
theorem dC3_10 : decode jdk_52_method_83_code 10 = .ok (.ireturn, 1) := by decide +kernel
theorem dC4_0 : decode jdk_42_method_154_code 0 = .ok (.getstatic 38, 3) := by decide +kernel
theorem dC4_3 : decode jdk_42_method_154_code 3 = .ok (.ifCond .eq 14, 3) := by decide +kernel
theorem dC4_6 : decode jdk_42_method_154_code 6 = .ok (.aload_n 0, 1) := by decide +kernel
theorem dC4_7 : decode jdk_42_method_154_code 7 = .ok (.getfield 15, 3) := by decide +kernel
theorem dC4_10 : decode jdk_42_method_154_code 10 = .ok (.ifCond .ne 7, 3) := by decide +kernel
theorem dC4_13 : decode jdk_42_method_154_code 13 = .ok (.iconst 1, 1) := by decide +kernel
theorem dC4_14 : decode jdk_42_method_154_code 14 = .ok (.goto 4, 3) := by decide +kernel
theorem dC4_17 : decode jdk_42_method_154_code 17 = .ok (.iconst 0, 1) := by decide +kernel
theorem dC4_18 : decode jdk_42_method_154_code 18 = .ok (.ireturn, 1) := by decide +kernel
theorem dC5_0 : decode jdk_42_method_56_code 0 = .ok (.aload_n 0, 1) := by decide +kernel
theorem dC5_1 : decode jdk_42_method_56_code 1 = .ok (.invokevirtual 492, 3) := by decide +kernel
theorem dC5_4 : decode jdk_42_method_56_code 4 = .ok (.ifCond .eq 12, 3) := by decide +kernel
theorem dC5_7 : decode jdk_42_method_56_code 7 = .ok (.aload_n 0, 1) := by decide +kernel
theorem dC5_8 : decode jdk_42_method_56_code 8 = .ok (.getfield 9, 3) := by decide +kernel
theorem dC5_11 : decode jdk_42_method_56_code 11 = .ok (.iload_n 1, 1) := by decide +kernel
theorem dC5_12 : decode jdk_42_method_56_code 12 = .ok (.invokestatic 495, 3) := by decide +kernel
theorem dC5_15 : decode jdk_42_method_56_code 15 = .ok (.ireturn, 1) := by decide +kernel
theorem dC5_16 : decode jdk_42_method_56_code 16 = .ok (.aload_n 0, 1) := by decide +kernel
theorem dC5_17 : decode jdk_42_method_56_code 17 = .ok (.getfield 9, 3) := by decide +kernel
theorem dC5_20 : decode jdk_42_method_56_code 20 = .ok (.iload_n 1, 1) := by decide +kernel
theorem dC5_21 : decode jdk_42_method_56_code 21 = .ok (.invokestatic 498, 3) := by decide +kernel
theorem dC5_24 : decode jdk_42_method_56_code 24 = .ok (.ireturn, 1) := by decide +kernel
theorem pd___B_I : parseMethodDescriptor "([B)I" = some ⟨[(.array .byte)], (some .int)⟩ := by decide +kernel
theorem pd__I_B_V : parseMethodDescriptor "(I[B)V" = some ⟨[.int, (.array .byte)], none⟩ := by decide +kernel
theorem pd___Z : parseMethodDescriptor "()Z" = some ⟨[], (some .boolean)⟩ := by decide +kernel
theorem pd__I_C : parseMethodDescriptor "(I)C" = some ⟨[.int], (some .char)⟩ := by decide +kernel
theorem pn_java_lang_StringLatin1 : plainName "java/lang/StringLatin1" = true := by first | (simp [plainName, overriddenIn]; done) | decide +kernel
set_option maxRecDepth 65536 in
set_option maxHeartbeats 4000000 in
theorem con_lca (l : Launch) (Z : State) (a0 : Array Value) (hw : ∀ d ∈ tables_1, d.before a0 Z = true) (hEL : EW Z a0 consts_1) (t : Addr) (kb : ClassId) (n i : Nat) (vs : List Value) (c1 : Int32) (fm : Value) (hfm : fm.isRef = true) (SF1 : Sta Z Z.heap "jdk/internal/util/Preconditions" "SIOOBE_FORMATTER" "Ljava/util/function/BiFunction;" fm) (h0 : Heap) (O : Ext Z.heap h0) (K : Arv Z h0 t kb .byte (Int32.ofNat n) vs (.int 0)) (hi : i < n) (hn : n < 2 ^ 30) (hv : vs.getD i (.int 0) = .int (StrChars.lo8 c1)) (hb : ¬ c1 < 0 ∧ ¬ (255 : Int32) < c1) :
    Ocon l Z consts_1 (⟨"java/lang/StringLatin1", "charAt", "([BI)C"⟩ : MethodName) jdk_43_method_2_code 2 (some .char) [] ({ frames := 2, cells := 0, slots := 0, locals := 27 } : Room) #[(.ref t), (.int (Int32.ofNat i))] h0 [] [] (fun v h _ => v = some (.int c1) ∧ h0 = h) := by
  refine own_con (a0 := a0) hEL (plainFor_of_name pn_java_lang_StringLatin1) ?_
  intro p e s m below meth c T hs W0
  have ef : entryFrame m #[(.ref t), (.int (Int32.ofNat i))] 2 = mkF m 0 #[.val (.ref t), .val (.int (Int32.ofNat i))] [] := own_entry m [(.ref t), (.int (Int32.ofNat i))] 2 (by simp [Value.category]) rfl
  rw [ef]
  refine g_iloadN W0 dC0_0 (pc' := 1) rfl rfl ?_
  refine g_aloadN W0 dC0_1 (pc' := 2) rfl rfl rfl ?_
  refine g_alen W0 dC0_2 (pc' := 3) rfl K ?_
  refine g_static W0 dC0_3 (pc' := 6) rfl (hw _ (List.mem_of_getElem? (i := 97) rfl)) (hw _ (List.mem_of_getElem? (i := 98) rfl)) (hw _ (List.mem_of_getElem? (i := 5) rfl)) (hw _ (List.mem_of_getElem? (i := 99) rfl)) (by decide) (con_sci l Z a0 hw hEL i n fm hfm SF1 h0 O hi hn) pd__II_V (argsL := [(.int (Int32.ofNat i)), (.int (Int32.ofNat n))]) (st := []) rfl rfl rfl rfl (by decide) (w := 0) (Nat.le_of_eq rfl) (by decide) (by decide) (by decide) (by simp) (fun q hq => nomatch hq) ?_
  intro v165 T166 h167 S170 q168 W171
  have W169 := W171.sf (SF' := []) (fun _ hx => List.mem_append_right _ hx)
  obtain ⟨rfl, rfl⟩ := q168
  refine g_aloadN W169 dC0_6 (pc' := 7) rfl rfl rfl ?_
  refine g_iloadN W169 dC0_7 (pc' := 8) rfl rfl ?_
  refine g_baload W169 dC0_8 (pc' := 9) rfl K (i := i) rfl (by rw [own_clamp hn]; exact hi) (v := (.int (StrChars.lo8 c1))) hv ?_
  refine g_sipush W169 dC0_9 (pc' := 12) rfl (v := 255) rfl ?_
  refine g_iand W169 dC0_12 (pc' := 13) rfl ?_
  refine g_i2c W169 dC0_13 (pc' := 14) rfl ?_
  rw [show ((StrChars.lo8 c1) &&& (255 : Int32)).toUInt32.toUInt16.toUInt32.toInt32 = c1 from StrChars.chr8_lo8 hb.1 hb.2]
  exact g_iret W169 dC0_14 rfl (Or.inr (Or.inr (Or.inr (Or.inl rfl)))) (StrChars.narrow_ch hb.1 (fun q => hb.2 (Int32.lt_trans (by decide) q))) ⟨rfl, rfl⟩
set_option maxRecDepth 65536 in
set_option maxHeartbeats 4000000 in
theorem con_uln (l : Launch) (Z : State) (a0 : Array Value) (hw : ∀ d ∈ tables_1, d.before a0 Z = true) (hEL : EW Z a0 consts_1) (t : Addr) (kb : ClassId) (n : Nat) (vs : List Value) (h0 : Heap) (K : Arv Z h0 t kb .byte (Int32.ofNat (2 * n)) vs (.int 0)) (hn : n < 2 ^ 29) :
    Ocon l Z consts_1 (⟨"java/lang/StringUTF16", "length", "([B)I"⟩ : MethodName) jdk_52_method_6_code 1 (some .int) [] ({ frames := 0, cells := 0, slots := 0, locals := 0 } : Room) #[(.ref t)] h0 [] [] (fun v h _ => v = some (.int (Int32.ofNat n)) ∧ h0 = h) := by
  refine own_con (a0 := a0) hEL (plainFor_of_name pn_java_lang_StringUTF16) ?_
  intro p e s m below meth c T hs W0
  have ef : entryFrame m #[(.ref t)] 1 = mkF m 0 #[.val (.ref t)] [] := own_entry m [(.ref t)] 1 (by simp [Value.category]) rfl
  rw [ef]
  refine g_aloadN W0 dC1_0 (pc' := 1) rfl rfl rfl ?_
  refine g_alen W0 dC1_1 (pc' := 2) rfl K ?_
  refine g_iconst W0 dC1_2 (pc' := 3) rfl (v := 1) rfl ?_
  refine g_ishr W0 dC1_3 (pc' := 4) rfl ?_
  rw [StrChars.shr1 (by omega)]
  exact g_iret W0 dC1_4 rfl (Or.inl rfl) rfl ⟨rfl, rfl⟩
set_option maxRecDepth 65536 in
set_option maxHeartbeats 4000000 in
theorem con_uci (l : Launch) (Z : State) (a0 : Array Value) (hw : ∀ d ∈ tables_1, d.before a0 Z = true) (hEL : EW Z a0 consts_1) (t : Addr) (kb : ClassId) (n : Nat) (vs : List Value) (i : Nat) (fm : Value) (hfm : fm.isRef = true) (SF1 : Sta Z Z.heap "jdk/internal/util/Preconditions" "SIOOBE_FORMATTER" "Ljava/util/function/BiFunction;" fm) (h0 : Heap) (O : Ext Z.heap h0) (K : Arv Z h0 t kb .byte (Int32.ofNat (2 * n)) vs (.int 0)) (hn : n < 2 ^ 29) (hi : i < n) :
    Ocon l Z consts_1 (⟨"java/lang/StringUTF16", "checkIndex", "(I[B)V"⟩ : MethodName) jdk_52_method_91_code 2 none [] ({ frames := 2, cells := 0, slots := 0, locals := 27 } : Room) #[(.int (Int32.ofNat i)), (.ref t)] h0 [] [] (fun v h _ => v = none ∧ h0 = h) := by
  refine own_con (a0 := a0) hEL (plainFor_of_name pn_java_lang_StringUTF16) ?_
  intro p e s m below meth c T hs W0
  have ef : entryFrame m #[(.int (Int32.ofNat i)), (.ref t)] 2 = mkF m 0 #[.val (.int (Int32.ofNat i)), .val (.ref t)] [] := own_entry m [(.int (Int32.ofNat i)), (.ref t)] 2 (by simp [Value.category]) rfl
  rw [ef]
  refine g_iloadN W0 dC2_0 (pc' := 1) rfl rfl ?_
  refine g_aloadN W0 dC2_1 (pc' := 2) rfl rfl rfl ?_
  refine g_static W0 dC2_2 (pc' := 5) rfl (hw _ (List.mem_of_getElem? (i := 137) rfl)) (hw _ (List.mem_of_getElem? (i := 138) rfl)) (hw _ (List.mem_of_getElem? (i := 19) rfl)) (hw _ (List.mem_of_getElem? (i := 139) rfl)) (by decide) (con_uln l Z a0 hw hEL t kb n vs h0 K hn) pd___B_I (argsL := [(.ref t)]) (st := [(.int (Int32.ofNat i))]) rfl rfl rfl rfl (by decide) (w := 1) (Nat.le_of_eq rfl) (by decide) (by decide) (by decide) (by simp) (fun q hq => nomatch hq) ?_
  intro v172 T173 h174 S177 q175 W178
  have W176 := W178.sf (SF' := []) (fun _ hx => List.mem_append_right _ hx)
  obtain ⟨rfl, rfl⟩ := q175
  refine g_static W176 dC2_5 (pc' := 8) rfl (hw _ (List.mem_of_getElem? (i := 140) rfl)) (hw _ (List.mem_of_getElem? (i := 98) rfl)) (hw _ (List.mem_of_getElem? (i := 5) rfl)) (hw _ (List.mem_of_getElem? (i := 99) rfl)) (by decide) (con_sci l Z a0 hw hEL i n fm hfm SF1 h0 O hi (by omega)) pd__II_V (argsL := [(.int (Int32.ofNat i)), (.int (Int32.ofNat n))]) (st := []) rfl rfl rfl rfl (by decide) (w := 0) (Nat.le_of_eq rfl) (by decide) (by decide) (by decide) (by simp) (fun q hq => nomatch hq) ?_
  intro v179 T180 h181 S184 q182 W185
  have W183 := W185.sf (SF' := []) (fun _ hx => List.mem_append_right _ hx)
  obtain ⟨rfl, rfl⟩ := q182
  exact g_return W183 dC2_8 rfl ⟨rfl, rfl⟩
set_option maxRecDepth 65536 in
set_option maxHeartbeats 4000000 in
theorem con_uca (l : Launch) (Z : State) (a0 : Array Value) (hw : ∀ d ∈ tables_1, d.before a0 Z = true) (hEL : EW Z a0 consts_1) (t : Addr) (kb : ClassId) (n : Nat) (vs : List Value) (i : Nat) (c1 : Int32) (fm : Value) (hfm : fm.isRef = true) (SF1 : Sta Z Z.heap "jdk/internal/util/Preconditions" "SIOOBE_FORMATTER" "Ljava/util/function/BiFunction;" fm) (h0 : Heap) (O : Ext Z.heap h0) (SA : Sta Z Z.heap "java/lang/StringUTF16" "$assertionsDisabled" "Z" (.int 1)) (SH : Sta Z Z.heap "java/lang/StringUTF16" "HI_BYTE_SHIFT" "I" (.int 0)) (SL : Sta Z Z.heap "java/lang/StringUTF16" "LO_BYTE_SHIFT" "I" (.int 8)) (K : Arv Z h0 t kb .byte (Int32.ofNat (2 * n)) vs (.int 0)) (hn : n < 2 ^ 29) (hi : i < n) (hlo : vs.getD (2 * i) (.int 0) = .int (StrChars.lo8 c1)) (hhi : vs.getD (2 * i + 1) (.int 0) = .int (StrChars.hi8 c1)) (hb : ¬ c1 < 0 ∧ ¬ (65535 : Int32) < c1) :
    Ocon l Z consts_1 (⟨"java/lang/StringUTF16", "charAt", "([BI)C"⟩ : MethodName) jdk_52_method_83_code 2 (some .char) [] ({ frames := 3, cells := 0, slots := 0, locals := 40 } : Room) #[(.ref t), (.int (Int32.ofNat i))] h0 [] [] (fun v h _ => v = some (.int c1) ∧ h0 = h) := by
  refine own_con (a0 := a0) hEL (plainFor_of_name pn_java_lang_StringUTF16) ?_
  intro p e s m below meth c T hs W0
  have ef : entryFrame m #[(.ref t), (.int (Int32.ofNat i))] 2 = mkF m 0 #[.val (.ref t), .val (.int (Int32.ofNat i))] [] := own_entry m [(.ref t), (.int (Int32.ofNat i))] 2 (by simp [Value.category]) rfl
  rw [ef]
  refine g_iloadN W0 dC3_0 (pc' := 1) rfl rfl ?_
  refine g_aloadN W0 dC3_1 (pc' := 2) rfl rfl rfl ?_
  refine g_static W0 dC3_2 (pc' := 5) rfl (hw _ (List.mem_of_getElem? (i := 134) rfl)) (hw _ (List.mem_of_getElem? (i := 135) rfl)) (hw _ (List.mem_of_getElem? (i := 19) rfl)) (hw _ (List.mem_of_getElem? (i := 136) rfl)) (by decide) (con_uci l Z a0 hw hEL t kb n vs i fm hfm SF1 h0 O K hn hi) pd__I_B_V (argsL := [(.int (Int32.ofNat i)), (.ref t)]) (st := []) rfl rfl rfl rfl (by decide) (w := 0) (Nat.le_of_eq rfl) (by decide) (by decide) (by decide) (by simp) (fun q hq => nomatch hq) ?_
  intro v186 T187 h188 S191 q189 W192
  have W190 := W192.sf (SF' := []) (fun _ hx => List.mem_append_right _ hx)
  obtain ⟨rfl, rfl⟩ := q189
  refine g_aloadN W190 dC3_5 (pc' := 6) rfl rfl rfl ?_
  refine g_iloadN W190 dC3_6 (pc' := 7) rfl rfl ?_
  refine g_static W190 dC3_7 (pc' := 10) rfl (hw _ (List.mem_of_getElem? (i := 128) rfl)) (hw _ (List.mem_of_getElem? (i := 129) rfl)) (hw _ (List.mem_of_getElem? (i := 19) rfl)) (hw _ (List.mem_of_getElem? (i := 130) rfl)) (by decide) (con_getc l Z a0 hw hEL t kb _ vs i c1 h0 O SA SH SL K (by rw [own_clamp (by omega)]; omega) (by omega) hlo hhi hb) pd___BI_C (argsL := [(.ref t), (.int (Int32.ofNat i))]) (st := []) rfl rfl rfl rfl (by decide) (w := 0) (Nat.le_of_eq rfl) (by decide) (by decide) (by decide) (by simp) (fun q hq => nomatch hq) ?_
  intro v193 T194 h195 S198 q196 W199
  have W197 := W199.sf (SF' := []) (fun _ hx => List.mem_append_right _ hx)
  obtain ⟨rfl, rfl⟩ := q196
  exact g_iret W197 dC3_10 rfl (Or.inr (Or.inr (Or.inr (Or.inl rfl)))) (StrChars.narrow_ch hb.1 hb.2) ⟨rfl, rfl⟩
set_option maxRecDepth 65536 in
set_option maxHeartbeats 4000000 in
theorem con_isl (l : Launch) (Z : State) (a0 : Array Value) (hw : ∀ d ∈ tables_1, d.before a0 Z = true) (hEL : EW Z a0 consts_1) (x : Addr) (cd : Int32) (zc : Int32) (SC : Sta Z Z.heap "java/lang/String" "COMPACT_STRINGS" "Z" (.int zc)) (hzc : ¬ zc = 0) (h0 : Heap) (O : Ext Z.heap h0) (FC : Fld Z h0 x "java/lang/String" "coder" "B" (.int cd)) :
    Ocon l Z consts_1 (⟨"java/lang/String", "isLatin1", "()Z"⟩ : MethodName) jdk_42_method_154_code 1 (some .boolean) [] ({ frames := 0, cells := 0, slots := 0, locals := 0 } : Room) #[(.ref x)] h0 [] [] (fun v h _ => v = some (.int (if cd = 0 then 1 else 0)) ∧ h0 = h) := by
  refine own_con (a0 := a0) hEL (plainFor_of_name pn_java_lang_String) ?_
  intro p e s m below meth c T hs W0
  have ef : entryFrame m #[(.ref x)] 1 = mkF m 0 #[.val (.ref x)] [] := own_entry m [(.ref x)] 1 (by simp [Value.category]) rfl
  rw [ef]
  refine g_getS W0 dC4_0 (pc' := 3) rfl (hw _ (List.mem_of_getElem? (i := 16) rfl)) (SC.ext O) ?_
  intro T201 W200
  refine g_ifN W200 dC4_3 (pc' := 6) (feq hzc).1 rfl ?_
  refine g_aloadN W200 dC4_6 (pc' := 7) rfl rfl rfl ?_
  refine g_getF W200 dC4_7 (pc' := 10) rfl (hw _ (List.mem_of_getElem? (i := 27) rfl)) FC ?_
  intro T203 W202
  by_cases c204 : cd = (0 : Int32)
  · skip
    refine g_ifN W202 dC4_10 (pc' := 13) (teq c204).2 rfl ?_
    refine g_iconst W202 dC4_13 (pc' := 14) rfl (v := 1) rfl ?_
    refine g_goto W202 dC4_14 (pc' := 18) (by decide) (by decide) ?_
    exact g_iret W202 dC4_18 rfl (Or.inr (Or.inl rfl)) rfl ⟨by rw [if_pos c204], rfl⟩
  · skip
    refine g_ifY W202 dC4_10 (pc' := 17) (feq c204).2 (by decide) (by decide) ?_
    refine g_iconst W202 dC4_17 (pc' := 18) rfl (v := 0) rfl ?_
    exact g_iret W202 dC4_18 rfl (Or.inr (Or.inl rfl)) rfl ⟨by rw [if_neg c204], rfl⟩
set_option maxRecDepth 65536 in
set_option maxHeartbeats 4000000 in
theorem con_cha (l : Launch) (Z : State) (a0 : Array Value) (hw : ∀ d ∈ tables_1, d.before a0 Z = true) (hEL : EW Z a0 consts_1) (x : Addr) (cs : List Int32) (i : Nat) (zc : Int32) (SC : Sta Z Z.heap "java/lang/String" "COMPACT_STRINGS" "Z" (.int zc)) (hzc : ¬ zc = 0) (fm : Value) (hfm : fm.isRef = true) (SF1 : Sta Z Z.heap "jdk/internal/util/Preconditions" "SIOOBE_FORMATTER" "Ljava/util/function/BiFunction;" fm) (h0 : Heap) (O : Ext Z.heap h0) (SA : Sta Z Z.heap "java/lang/StringUTF16" "$assertionsDisabled" "Z" (.int 1)) (SH : Sta Z Z.heap "java/lang/StringUTF16" "HI_BYTE_SHIFT" "I" (.int 0)) (SL : Sta Z Z.heap "java/lang/StringUTF16" "LO_BYTE_SHIFT" "I" (.int 8)) (S : OStr Z h0 x cs) (hi : i < cs.length) (hn : cs.length < 2 ^ 29) :
    Ocon l Z consts_1 (⟨"java/lang/String", "charAt", "(I)C"⟩ : MethodName) jdk_42_method_56_code 2 (some .char) [] ({ frames := 4, cells := 0, slots := 0, locals := 53 } : Room) #[(.ref x), (.int (Int32.ofNat i))] h0 [] [] (fun v h _ => v = some (.int (cs.getD i 0)) ∧ h0 = h) := by
  refine own_con (a0 := a0) hEL (plainFor_of_name pn_java_lang_String) ?_
  intro p e s m below meth c T hs W0
  obtain ⟨sE, hb, t, kb, cd, N2, vs, FV, FC, K, CA⟩ := S
  have ef : entryFrame m #[(.ref x), (.int (Int32.ofNat i))] 2 = mkF m 0 #[.val (.ref x), .val (.int (Int32.ofNat i))] [] := own_entry m [(.ref x), (.int (Int32.ofNat i))] 2 (by simp [Value.category]) rfl
  rw [ef]
  have hbi := hb _ (own_mem hi)
  refine g_aloadN W0 dC5_0 (pc' := 1) rfl rfl rfl ?_
  refine g_virtual W0 dC5_1 (pc' := 4) (C := "java/lang/String") rfl (hw _ (List.mem_of_getElem? (i := 88) rfl)) (hw _ (List.mem_of_getElem? (i := 89) rfl)) (hw _ (List.mem_of_getElem? (i := 91) rfl)) (hw _ (List.mem_of_getElem? (i := 91) rfl)) (hw _ (List.mem_of_getElem? (i := 90) rfl)) (hw _ (List.mem_of_getElem? (i := 5) rfl)) (hw _ (List.mem_of_getElem? (i := 92) rfl)) (by decide) sE (con_isl l Z a0 hw hEL x cd zc SC hzc h0 O FC) pd___Z (argsL := []) (st := []) rfl rfl rfl rfl (by decide) (w := 0) (Nat.le_of_eq rfl) (by decide) (by decide) (by decide) (by simp) (fun q hq => nomatch hq) ?_
  intro v205 T206 h207 S210 q208 W211
  have W209 := W211.sf (SF' := []) (fun _ hx => List.mem_append_right _ hx)
  obtain ⟨rfl, rfl⟩ := q208
  rcases CA with ⟨rfl, rfl, rfl, hlt⟩ | ⟨rfl, rfl, rfl, -⟩
  · skip
    refine g_ifN W209 dC5_4 (pc' := 7) (by decide) rfl ?_
    refine g_aloadN W209 dC5_7 (pc' := 8) rfl rfl rfl ?_
    refine g_getF W209 dC5_8 (pc' := 11) rfl (hw _ (List.mem_of_getElem? (i := 29) rfl)) FV ?_
    intro T213 W212
    refine g_iloadN W212 dC5_11 (pc' := 12) rfl rfl ?_
    refine g_static W212 dC5_12 (pc' := 15) rfl (hw _ (List.mem_of_getElem? (i := 93) rfl)) (hw _ (List.mem_of_getElem? (i := 94) rfl)) (hw _ (List.mem_of_getElem? (i := 95) rfl)) (hw _ (List.mem_of_getElem? (i := 96) rfl)) (by decide) (con_lca l Z a0 hw hEL t kb cs.length i _ (cs.getD i 0) fm hfm SF1 h0 O K hi (by omega) (StrChars.Road.low_at _ cs i hi) ⟨hbi.1, hlt _ (own_mem hi)⟩) pd___BI_C (argsL := [(.ref t), (.int (Int32.ofNat i))]) (st := []) rfl rfl rfl rfl (by decide) (w := 0) (Nat.le_of_eq rfl) (by decide) (by decide) (by decide) (by simp) (fun q hq => nomatch hq) ?_
    intro v214 T215 h216 S219 q217 W220
    have W218 := W220.sf (SF' := []) (fun _ hx => List.mem_append_right _ hx)
    obtain ⟨rfl, rfl⟩ := q217
    exact g_iret W218 dC5_15 rfl (Or.inr (Or.inr (Or.inr (Or.inl rfl)))) (StrChars.narrow_ch hbi.1 hbi.2) ⟨rfl, rfl⟩
  · skip
    refine g_ifY W209 dC5_4 (pc' := 16) (by decide) (by decide) (by decide) ?_
    refine g_aloadN W209 dC5_16 (pc' := 17) rfl rfl rfl ?_
    refine g_getF W209 dC5_17 (pc' := 20) rfl (hw _ (List.mem_of_getElem? (i := 29) rfl)) FV ?_
    intro T222 W221
    refine g_iloadN W221 dC5_20 (pc' := 21) rfl rfl ?_
    refine g_static W221 dC5_21 (pc' := 24) rfl (hw _ (List.mem_of_getElem? (i := 131) rfl)) (hw _ (List.mem_of_getElem? (i := 132) rfl)) (hw _ (List.mem_of_getElem? (i := 19) rfl)) (hw _ (List.mem_of_getElem? (i := 133) rfl)) (by decide) (con_uca l Z a0 hw hEL t kb cs.length _ i (cs.getD i 0) fm hfm SF1 h0 O SA SH SL K hn hi (own_wide_lo cs hi) (own_wide_hi cs hi) hbi) pd___BI_C (argsL := [(.ref t), (.int (Int32.ofNat i))]) (st := []) rfl rfl rfl rfl (by decide) (w := 0) (Nat.le_of_eq rfl) (by decide) (by decide) (by decide) (by simp) (fun q hq => nomatch hq) ?_
    intro v223 T224 h225 S228 q226 W229
    have W227 := W229.sf (SF' := []) (fun _ hx => List.mem_append_right _ hx)
    obtain ⟨rfl, rfl⟩ := q226
    exact g_iret W227 dC5_24 rfl (Or.inr (Or.inr (Or.inr (Or.inl rfl)))) (StrChars.narrow_ch hbi.1 hbi.2) ⟨rfl, rfl⟩
theorem own_wlen_ : ∀ d ∈ StrChars.Road.wordsLen, d ∈ tables_1 := by decide +kernel
theorem dP0_0 : decode method_3_code 0 = .ok (.iload_n 1, 1) := by decide +kernel
theorem dP0_1 : decode method_3_code 1 = .ok (.iload_n 0, 1) := by decide +kernel
theorem dP0_2 : decode method_3_code 2 = .ok (.if_icmp .ge 11, 3) := by decide +kernel
theorem dP0_5 : decode method_3_code 5 = .ok (.iload_n 2, 1) := by decide +kernel
theorem dP0_6 : decode method_3_code 6 = .ok (.sipush 128, 3) := by decide +kernel
theorem dP0_9 : decode method_3_code 9 = .ok (.iand, 1) := by decide +kernel
theorem dP0_10 : decode method_3_code 10 = .ok (.ifCond .ne 7, 3) := by decide +kernel
theorem dP0_13 : decode method_3_code 13 = .ok (.iconst 1, 1) := by decide +kernel
theorem dP0_14 : decode method_3_code 14 = .ok (.goto 4, 3) := by decide +kernel
theorem dP0_17 : decode method_3_code 17 = .ok (.iconst 0, 1) := by decide +kernel
theorem dP0_18 : decode method_3_code 18 = .ok (.ireturn, 1) := by decide +kernel
theorem dP1_0 : decode method_4_code 0 = .ok (.iload_n 1, 1) := by decide +kernel
theorem dP1_1 : decode method_4_code 1 = .ok (.iload_n 0, 1) := by decide +kernel
theorem dP1_2 : decode method_4_code 2 = .ok (.if_icmp .ge 13, 3) := by decide +kernel
theorem dP1_5 : decode method_4_code 5 = .ok (.iload_n 2, 1) := by decide +kernel
theorem dP1_6 : decode method_4_code 6 = .ok (.bipush 16, 2) := by decide +kernel
theorem dP1_8 : decode method_4_code 8 = .ok (.iushr, 1) := by decide +kernel
theorem dP1_9 : decode method_4_code 9 = .ok (.sipush 128, 3) := by decide +kernel
theorem dP1_12 : decode method_4_code 12 = .ok (.if_icmp .ge 7, 3) := by decide +kernel
theorem dP1_15 : decode method_4_code 15 = .ok (.iconst 1, 1) := by decide +kernel
theorem dP1_16 : decode method_4_code 16 = .ok (.goto 4, 3) := by decide +kernel
theorem dP1_19 : decode method_4_code 19 = .ok (.iconst 0, 1) := by decide +kernel
theorem dP1_20 : decode method_4_code 20 = .ok (.ireturn, 1) := by decide +kernel
theorem dP2_0 : decode method_5_code 0 = .ok (.iload_n 2, 1) := by decide +kernel
theorem dP2_1 : decode method_5_code 1 = .ok (.iload_n 1, 1) := by decide +kernel
theorem dP2_2 : decode method_5_code 2 = .ok (.if_icmp .ge 11, 3) := by decide +kernel
theorem dP2_5 : decode method_5_code 5 = .ok (.aload_n 0, 1) := by decide +kernel
theorem dP2_6 : decode method_5_code 6 = .ok (.iload_n 2, 1) := by decide +kernel
theorem dP2_7 : decode method_5_code 7 = .ok (.baload, 1) := by decide +kernel
theorem dP2_8 : decode method_5_code 8 = .ok (.iload_n 3, 1) := by decide +kernel
theorem dP2_9 : decode method_5_code 9 = .ok (.i2b, 1) := by decide +kernel
theorem dP2_10 : decode method_5_code 10 = .ok (.if_icmp .ne 7, 3) := by decide +kernel
theorem dP2_13 : decode method_5_code 13 = .ok (.iconst 1, 1) := by decide +kernel
theorem dP2_14 : decode method_5_code 14 = .ok (.goto 4, 3) := by decide +kernel
theorem dP2_17 : decode method_5_code 17 = .ok (.iconst 0, 1) := by decide +kernel
theorem dP2_18 : decode method_5_code 18 = .ok (.ireturn, 1) := by decide +kernel
theorem dP3_0 : decode method_6_code 0 = .ok (.iload_n 2, 1) := by decide +kernel
theorem dP3_1 : decode method_6_code 1 = .ok (.iload_n 1, 1) := by decide +kernel
theorem dP3_2 : decode method_6_code 2 = .ok (.if_icmp .ge 14, 3) := by decide +kernel
theorem dP3_5 : decode method_6_code 5 = .ok (.aload_n 0, 1) := by decide +kernel
theorem dP3_6 : decode method_6_code 6 = .ok (.iload_n 2, 1) := by decide +kernel
theorem dP3_7 : decode method_6_code 7 = .ok (.baload, 1) := by decide +kernel
theorem dP3_8 : decode method_6_code 8 = .ok (.iload_n 3, 1) := by decide +kernel
theorem dP3_9 : decode method_6_code 9 = .ok (.bipush 16, 2) := by decide +kernel
theorem dP3_11 : decode method_6_code 11 = .ok (.iushr, 1) := by decide +kernel
theorem dP3_12 : decode method_6_code 12 = .ok (.i2b, 1) := by decide +kernel
theorem dP3_13 : decode method_6_code 13 = .ok (.if_icmp .ne 7, 3) := by decide +kernel
theorem dP3_16 : decode method_6_code 16 = .ok (.iconst 1, 1) := by decide +kernel
theorem dP3_17 : decode method_6_code 17 = .ok (.goto 4, 3) := by decide +kernel
theorem dP3_20 : decode method_6_code 20 = .ok (.iconst 0, 1) := by decide +kernel
theorem dP3_21 : decode method_6_code 21 = .ok (.ireturn, 1) := by decide +kernel
theorem dP4_0 : decode prog_88_method_4_code 0 = .ok (.new 8, 3) := by decide +kernel
theorem dP4_3 : decode prog_88_method_4_code 3 = .ok (.dup, 1) := by decide +kernel
theorem dP4_4 : decode prog_88_method_4_code 4 = .ok (.aload_n 0, 1) := by decide +kernel
theorem dP4_5 : decode prog_88_method_4_code 5 = .ok (.aconst_null, 1) := by decide +kernel
theorem dP4_6 : decode prog_88_method_4_code 6 = .ok (.invokespecial 30, 3) := by decide +kernel
theorem dP4_9 : decode prog_88_method_4_code 9 = .ok (.areturn, 1) := by decide +kernel
theorem dP5_0 : decode prog_88_method_3_code 0 = .ok (.aload_n 0, 1) := by decide +kernel
theorem dP5_1 : decode prog_88_method_3_code 1 = .ok (.invokevirtual 17, 3) := by decide +kernel
theorem dP5_4 : decode prog_88_method_3_code 4 = .ok (.newarray .byte, 2) := by decide +kernel
theorem dP5_6 : decode prog_88_method_3_code 6 = .ok (.astore_n 1, 1) := by decide +kernel
theorem dP5_7 : decode prog_88_method_3_code 7 = .ok (.iconst 0, 1) := by decide +kernel
theorem dP5_8 : decode prog_88_method_3_code 8 = .ok (.istore_n 2, 1) := by decide +kernel
theorem dP5_9 : decode prog_88_method_3_code 9 = .ok (.iload_n 2, 1) := by decide +kernel
theorem dP5_10 : decode prog_88_method_3_code 10 = .ok (.aload_n 1, 1) := by decide +kernel
theorem dP5_11 : decode prog_88_method_3_code 11 = .ok (.arraylength, 1) := by decide +kernel
theorem dP5_12 : decode prog_88_method_3_code 12 = .ok (.if_icmp .ge 36, 3) := by decide +kernel
theorem dP5_15 : decode prog_88_method_3_code 15 = .ok (.aload_n 0, 1) := by decide +kernel
theorem dP5_16 : decode prog_88_method_3_code 16 = .ok (.iload_n 2, 1) := by decide +kernel
theorem dP5_17 : decode prog_88_method_3_code 17 = .ok (.invokevirtual 23, 3) := by decide +kernel
theorem dP5_20 : decode prog_88_method_3_code 20 = .ok (.istore_n 3, 1) := by decide +kernel
theorem dP5_21 : decode prog_88_method_3_code 21 = .ok (.iload_n 3, 1) := by decide +kernel
theorem dP5_22 : decode prog_88_method_3_code 22 = .ok (.sipush 255, 3) := by decide +kernel
theorem dP5_25 : decode prog_88_method_3_code 25 = .ok (.if_icmp .le 12, 3) := by decide +kernel
theorem dP5_28 : decode prog_88_method_3_code 28 = .ok (.new 8, 3) := by decide +kernel
theorem dP5_31 : decode prog_88_method_3_code 31 = .ok (.dup, 1) := by decide +kernel
theorem dP5_32 : decode prog_88_method_3_code 32 = .ok (.aload_n 0, 1) := by decide +kernel
theorem dP5_33 : decode prog_88_method_3_code 33 = .ok (.invokespecial 27, 3) := by decide +kernel
theorem dP5_36 : decode prog_88_method_3_code 36 = .ok (.areturn, 1) := by decide +kernel
theorem dP5_37 : decode prog_88_method_3_code 37 = .ok (.aload_n 1, 1) := by decide +kernel
theorem dP5_38 : decode prog_88_method_3_code 38 = .ok (.iload_n 2, 1) := by decide +kernel
theorem dP5_39 : decode prog_88_method_3_code 39 = .ok (.iload_n 3, 1) := by decide +kernel
theorem dP5_40 : decode prog_88_method_3_code 40 = .ok (.i2b, 1) := by decide +kernel
theorem dP5_41 : decode prog_88_method_3_code 41 = .ok (.bastore, 1) := by decide +kernel
theorem dP5_42 : decode prog_88_method_3_code 42 = .ok (.iinc 2 1, 3) := by decide +kernel
theorem dP5_45 : decode prog_88_method_3_code 45 = .ok (.goto (-36), 3) := by decide +kernel
theorem dP5_48 : decode prog_88_method_3_code 48 = .ok (.new 8, 3) := by decide +kernel
theorem dP5_51 : decode prog_88_method_3_code 51 = .ok (.dup, 1) := by decide +kernel
theorem dP5_52 : decode prog_88_method_3_code 52 = .ok (.aload_n 1, 1) := by decide +kernel
theorem dP5_53 : decode prog_88_method_3_code 53 = .ok (.aload_n 0, 1) := by decide +kernel
theorem dP5_54 : decode prog_88_method_3_code 54 = .ok (.invokespecial 30, 3) := by decide +kernel
theorem dP5_57 : decode prog_88_method_3_code 57 = .ok (.areturn, 1) := by decide +kernel
theorem dP6_0 : decode prog_88_method_2_code 0 = .ok (.aload_n 0, 1) := by decide +kernel
theorem dP6_1 : decode prog_88_method_2_code 1 = .ok (.invokespecial 1, 3) := by decide +kernel
theorem dP6_4 : decode prog_88_method_2_code 4 = .ok (.aload_n 0, 1) := by decide +kernel
theorem dP6_5 : decode prog_88_method_2_code 5 = .ok (.aload_n 1, 1) := by decide +kernel
theorem dP6_6 : decode prog_88_method_2_code 6 = .ok (.putfield 7, 3) := by decide +kernel
theorem dP6_9 : decode prog_88_method_2_code 9 = .ok (.aload_n 0, 1) := by decide +kernel
theorem dP6_10 : decode prog_88_method_2_code 10 = .ok (.aload_n 2, 1) := by decide +kernel
theorem dP6_11 : decode prog_88_method_2_code 11 = .ok (.putfield 13, 3) := by decide +kernel
theorem dP6_14 : decode prog_88_method_2_code 14 = .ok (.return_, 1) := by decide +kernel
theorem dP7_0 : decode prog_88_method_1_code 0 = .ok (.aload_n 0, 1) := by decide +kernel
theorem dP7_1 : decode prog_88_method_1_code 1 = .ok (.invokespecial 1, 3) := by decide +kernel
theorem dP7_4 : decode prog_88_method_1_code 4 = .ok (.aload_n 0, 1) := by decide +kernel
theorem dP7_5 : decode prog_88_method_1_code 5 = .ok (.aconst_null, 1) := by decide +kernel
theorem dP7_6 : decode prog_88_method_1_code 6 = .ok (.putfield 7, 3) := by decide +kernel
theorem dP7_9 : decode prog_88_method_1_code 9 = .ok (.aload_n 0, 1) := by decide +kernel
theorem dP7_10 : decode prog_88_method_1_code 10 = .ok (.aload_n 1, 1) := by decide +kernel
theorem dP7_11 : decode prog_88_method_1_code 11 = .ok (.putfield 13, 3) := by decide +kernel
theorem dP7_14 : decode prog_88_method_1_code 14 = .ok (.return_, 1) := by decide +kernel
theorem dP8_0 : decode prog_88_method_6_code 0 = .ok (.aload_n 0, 1) := by decide +kernel
theorem dP8_1 : decode prog_88_method_6_code 1 = .ok (.getfield 7, 3) := by decide +kernel
theorem dP8_4 : decode prog_88_method_6_code 4 = .ok (.ifnull 7, 3) := by decide +kernel
theorem dP8_7 : decode prog_88_method_6_code 7 = .ok (.iconst 1, 1) := by decide +kernel
theorem dP8_8 : decode prog_88_method_6_code 8 = .ok (.goto 4, 3) := by decide +kernel
theorem dP8_11 : decode prog_88_method_6_code 11 = .ok (.iconst 0, 1) := by decide +kernel
theorem dP8_12 : decode prog_88_method_6_code 12 = .ok (.istore_n 1, 1) := by decide +kernel
theorem dP8_13 : decode prog_88_method_6_code 13 = .ok (.iconst 0, 1) := by decide +kernel
theorem dP8_14 : decode prog_88_method_6_code 14 = .ok (.istore_n 2, 1) := by decide +kernel
theorem dP8_15 : decode prog_88_method_6_code 15 = .ok (.iload_n 1, 1) := by decide +kernel
theorem dP8_16 : decode prog_88_method_6_code 16 = .ok (.ifCond .eq 33, 3) := by decide +kernel
theorem dP8_19 : decode prog_88_method_6_code 19 = .ok (.iload_n 2, 1) := by decide +kernel
theorem dP8_20 : decode prog_88_method_6_code 20 = .ok (.aload_n 0, 1) := by decide +kernel
theorem dP8_21 : decode prog_88_method_6_code 21 = .ok (.getfield 7, 3) := by decide +kernel
theorem dP8_24 : decode prog_88_method_6_code 24 = .ok (.arraylength, 1) := by decide +kernel
theorem dP8_25 : decode prog_88_method_6_code 25 = .ok (.if_icmp .ge 24, 3) := by decide +kernel
theorem dP8_28 : decode prog_88_method_6_code 28 = .ok (.aload_n 0, 1) := by decide +kernel
theorem dP8_29 : decode prog_88_method_6_code 29 = .ok (.getfield 7, 3) := by decide +kernel
theorem dP8_32 : decode prog_88_method_6_code 32 = .ok (.iload_n 2, 1) := by decide +kernel
theorem dP8_33 : decode prog_88_method_6_code 33 = .ok (.baload, 1) := by decide +kernel
theorem dP8_34 : decode prog_88_method_6_code 34 = .ok (.ifCond .lt 7, 3) := by decide +kernel
theorem dP8_37 : decode prog_88_method_6_code 37 = .ok (.iconst 1, 1) := by decide +kernel
theorem dP8_38 : decode prog_88_method_6_code 38 = .ok (.goto 4, 3) := by decide +kernel
theorem dP8_41 : decode prog_88_method_6_code 41 = .ok (.iconst 0, 1) := by decide +kernel
theorem dP8_42 : decode prog_88_method_6_code 42 = .ok (.istore_n 1, 1) := by decide +kernel
theorem dP8_43 : decode prog_88_method_6_code 43 = .ok (.iinc 2 1, 3) := by decide +kernel
theorem dP8_46 : decode prog_88_method_6_code 46 = .ok (.goto (-31), 3) := by decide +kernel
theorem dP8_49 : decode prog_88_method_6_code 49 = .ok (.iload_n 1, 1) := by decide +kernel
theorem dP8_50 : decode prog_88_method_6_code 50 = .ok (.ifCond .eq 10, 3) := by decide +kernel
theorem dP8_53 : decode prog_88_method_6_code 53 = .ok (.aload_n 0, 1) := by decide +kernel
theorem dP8_54 : decode prog_88_method_6_code 54 = .ok (.getfield 7, 3) := by decide +kernel
theorem dP8_57 : decode prog_88_method_6_code 57 = .ok (.goto 4, 3) := by decide +kernel
theorem dP8_60 : decode prog_88_method_6_code 60 = .ok (.aconst_null, 1) := by decide +kernel
theorem dP8_61 : decode prog_88_method_6_code 61 = .ok (.areturn, 1) := by decide +kernel
theorem dP9_0 : decode prog_91_method_1_code 0 = .ok (.aload_n 0, 1) := by decide +kernel
theorem dP9_1 : decode prog_91_method_1_code 1 = .ok (.invokespecial 1, 3) := by decide +kernel
theorem dP9_4 : decode prog_91_method_1_code 4 = .ok (.return_, 1) := by decide +kernel
theorem dP10_0 : decode prog_99_method_1_code 0 = .ok (.aload_n 0, 1) := by decide +kernel
theorem dP10_1 : decode prog_99_method_1_code 1 = .ok (.invokespecial 1, 3) := by decide +kernel
theorem dP10_4 : decode prog_99_method_1_code 4 = .ok (.return_, 1) := by decide +kernel
theorem pd__III_Z : parseMethodDescriptor "(III)Z" = some ⟨[.int, .int, .int], (some .boolean)⟩ := by decide +kernel
theorem pd___BIII_Z : parseMethodDescriptor "([BIII)Z" = some ⟨[(.array .byte), .int, .int, .int], (some .boolean)⟩ := by decide +kernel
theorem pd___B_Lcom_example_unnest_unnest_value_JsonString_ : parseMethodDescriptor "([B)Lcom/example/unnest/unnest/value/JsonString;" = some ⟨[(.array .byte)], (some (.object "com/example/unnest/unnest/value/JsonString"))⟩ := by decide +kernel
theorem pd__Ljava_lang_String__Lcom_example_unnest_unnest_value_JsonString_ : parseMethodDescriptor "(Ljava/lang/String;)Lcom/example/unnest/unnest/value/JsonString;" = some ⟨[(.object "java/lang/String")], (some (.object "com/example/unnest/unnest/value/JsonString"))⟩ := by decide +kernel
theorem pd___BLjava_lang_String__V : parseMethodDescriptor "([BLjava/lang/String;)V" = some ⟨[(.array .byte), (.object "java/lang/String")], none⟩ := by decide +kernel
theorem pd__Ljava_lang_String__V : parseMethodDescriptor "(Ljava/lang/String;)V" = some ⟨[(.object "java/lang/String")], none⟩ := by decide +kernel
theorem pd____B : parseMethodDescriptor "()[B" = some ⟨[], (some (.array .byte))⟩ := by decide +kernel
theorem pd___V : parseMethodDescriptor "()V" = some ⟨[], none⟩ := by decide +kernel
theorem pd___I : parseMethodDescriptor "()I" = some ⟨[], (some .int)⟩ := by decide +kernel
theorem pn_com_example_unnest_unnest_value_JsonStringAsciiPinLaw : plainName "com/example/unnest/unnest/value/JsonStringAsciiPinLaw" = true := by first | (simp [plainName, overriddenIn]; done) | decide +kernel
set_option maxRecDepth 65536 in
set_option maxHeartbeats 4000000 in
theorem con_bok (l : Launch) (Z : State) (a0 : Array Value) (hw : ∀ d ∈ tables_1, d.before a0 Z = true) (hEL : EW Z a0 consts_1) (n i : Nat) (x : Int32) (h0 : Heap) (hn : n ≤ 4) (hi : i < 4) :
    Ocon l Z consts_1 (⟨"com/example/unnest/unnest/value/JsonStringAsciiPinLaw", "byteOk", "(III)Z"⟩ : MethodName) method_3_code 3 (some .boolean) [] ({ frames := 0, cells := 0, slots := 0, locals := 0 } : Room) #[(.int (Int32.ofNat n)), (.int (Int32.ofNat i)), (.int x)] h0 [] [] (fun v h _ => h0 = h ∧ ((v = some (.int 1) ∧ (i < n → (x &&& (128 : Int32)) = (0 : Int32))) ∨ (v = some (.int 0) ∧ i < n ∧ ¬ (x &&& (128 : Int32)) = (0 : Int32)))) := by
  refine own_con (a0 := a0) hEL (plainFor_of_name pn_com_example_unnest_unnest_value_JsonStringAsciiPinLaw) ?_
  intro p e s m below meth c T hs W0
  have ef : entryFrame m #[(.int (Int32.ofNat n)), (.int (Int32.ofNat i)), (.int x)] 3 = mkF m 0 #[.val (.int (Int32.ofNat n)), .val (.int (Int32.ofNat i)), .val (.int x)] [] := own_entry m [(.int (Int32.ofNat n)), (.int (Int32.ofNat i)), (.int x)] 3 (by simp [Value.category]) rfl
  rw [ef]
  refine g_iloadN W0 dP0_0 (pc' := 1) rfl rfl ?_
  refine g_iloadN W0 dP0_1 (pc' := 2) rfl rfl ?_
  rcases Nat.lt_or_ge i n with hin | hin
  · skip
    refine g_icN W0 dP0_2 (pc' := 5) (tlt (own_lt (by omega) hin)).2.1 rfl ?_
    refine g_iloadN W0 dP0_5 (pc' := 6) rfl rfl ?_
    refine g_sipush W0 dP0_6 (pc' := 9) rfl (v := 128) rfl ?_
    refine g_iand W0 dP0_9 (pc' := 10) rfl ?_
    by_cases c230 : (x &&& (128 : Int32)) = (0 : Int32)
    · skip
      refine g_ifN W0 dP0_10 (pc' := 13) (teq c230).2 rfl ?_
      refine g_iconst W0 dP0_13 (pc' := 14) rfl (v := 1) rfl ?_
      refine g_goto W0 dP0_14 (pc' := 18) (by decide) (by decide) ?_
      exact g_iret W0 dP0_18 rfl (Or.inr (Or.inl rfl)) rfl ⟨rfl, Or.inl ⟨rfl, fun _ => c230⟩⟩
    · skip
      refine g_ifY W0 dP0_10 (pc' := 17) (feq c230).2 (by decide) (by decide) ?_
      refine g_iconst W0 dP0_17 (pc' := 18) rfl (v := 0) rfl ?_
      exact g_iret W0 dP0_18 rfl (Or.inr (Or.inl rfl)) rfl ⟨rfl, Or.inr ⟨rfl, hin, c230⟩⟩
  · skip
    refine g_icY W0 dP0_2 (pc' := 13) (flt (own_nlt (by omega) hin)).2.1 (by decide) (by decide) ?_
    refine g_iconst W0 dP0_13 (pc' := 14) rfl (v := 1) rfl ?_
    refine g_goto W0 dP0_14 (pc' := 18) (by decide) (by decide) ?_
    exact g_iret W0 dP0_18 rfl (Or.inr (Or.inl rfl)) rfl ⟨rfl, Or.inl ⟨rfl, fun q => absurd q (by omega)⟩⟩
set_option maxRecDepth 65536 in
set_option maxHeartbeats 4000000 in
theorem con_cok (l : Launch) (Z : State) (a0 : Array Value) (hw : ∀ d ∈ tables_1, d.before a0 Z = true) (hEL : EW Z a0 consts_1) (n i : Nat) (x : Int32) (h0 : Heap) (hn : n ≤ 4) (hi : i < 4) :
    Ocon l Z consts_1 (⟨"com/example/unnest/unnest/value/JsonStringAsciiPinLaw", "charOk", "(III)Z"⟩ : MethodName) method_4_code 3 (some .boolean) [] ({ frames := 0, cells := 0, slots := 0, locals := 0 } : Room) #[(.int (Int32.ofNat n)), (.int (Int32.ofNat i)), (.int x)] h0 [] [] (fun v h _ => h0 = h ∧ ((v = some (.int 1) ∧ (i < n → (XT.ushr x (16 : Int32)) < (128 : Int32))) ∨ (v = some (.int 0) ∧ i < n ∧ ¬ (XT.ushr x (16 : Int32)) < (128 : Int32)))) := by
  refine own_con (a0 := a0) hEL (plainFor_of_name pn_com_example_unnest_unnest_value_JsonStringAsciiPinLaw) ?_
  intro p e s m below meth c T hs W0
  have ef : entryFrame m #[(.int (Int32.ofNat n)), (.int (Int32.ofNat i)), (.int x)] 3 = mkF m 0 #[.val (.int (Int32.ofNat n)), .val (.int (Int32.ofNat i)), .val (.int x)] [] := own_entry m [(.int (Int32.ofNat n)), (.int (Int32.ofNat i)), (.int x)] 3 (by simp [Value.category]) rfl
  rw [ef]
  refine g_iloadN W0 dP1_0 (pc' := 1) rfl rfl ?_
  refine g_iloadN W0 dP1_1 (pc' := 2) rfl rfl ?_
  rcases Nat.lt_or_ge i n with hin | hin
  · skip
    refine g_icN W0 dP1_2 (pc' := 5) (tlt (own_lt (by omega) hin)).2.1 rfl ?_
    refine g_iloadN W0 dP1_5 (pc' := 6) rfl rfl ?_
    refine g_bipush W0 dP1_6 (pc' := 8) rfl (v := 16) rfl ?_
    refine g_iushr W0 dP1_8 (pc' := 9) rfl ?_
    refine g_sipush W0 dP1_9 (pc' := 12) rfl (v := 128) rfl ?_
    by_cases c231 : (XT.ushr x (16 : Int32)) < (128 : Int32)
    · skip
      refine g_icN W0 dP1_12 (pc' := 15) (tlt c231).2.1 rfl ?_
      refine g_iconst W0 dP1_15 (pc' := 16) rfl (v := 1) rfl ?_
      refine g_goto W0 dP1_16 (pc' := 20) (by decide) (by decide) ?_
      exact g_iret W0 dP1_20 rfl (Or.inr (Or.inl rfl)) rfl ⟨rfl, Or.inl ⟨rfl, fun _ => c231⟩⟩
    · skip
      refine g_icY W0 dP1_12 (pc' := 19) (flt c231).2.1 (by decide) (by decide) ?_
      refine g_iconst W0 dP1_19 (pc' := 20) rfl (v := 0) rfl ?_
      exact g_iret W0 dP1_20 rfl (Or.inr (Or.inl rfl)) rfl ⟨rfl, Or.inr ⟨rfl, hin, c231⟩⟩
  · skip
    refine g_icY W0 dP1_2 (pc' := 15) (flt (own_nlt (by omega) hin)).2.1 (by decide) (by decide) ?_
    refine g_iconst W0 dP1_15 (pc' := 16) rfl (v := 1) rfl ?_
    refine g_goto W0 dP1_16 (pc' := 20) (by decide) (by decide) ?_
    exact g_iret W0 dP1_20 rfl (Or.inr (Or.inl rfl)) rfl ⟨rfl, Or.inl ⟨rfl, fun q => absurd q (by omega)⟩⟩
set_option maxRecDepth 65536 in
set_option maxHeartbeats 4000000 in
theorem con_smb (l : Launch) (Z : State) (a0 : Array Value) (hw : ∀ d ∈ tables_1, d.before a0 Z = true) (hEL : EW Z a0 consts_1) (t : Addr) (kb : ClassId) (vs : List Value) (n i : Nat) (x : Int32) (h0 : Heap) (hn : n ≤ 4) (hi : i < 4) (K : Arv Z h0 t kb .byte (Int32.ofNat n) vs (.int 0)) (hs1 : i < n → vs.getD i (.int 0) = .int (x).toInt8.toInt32) :
    Ocon l Z consts_1 (⟨"com/example/unnest/unnest/value/JsonStringAsciiPinLaw", "sameByte", "([BIII)Z"⟩ : MethodName) method_5_code 4 (some .boolean) [] ({ frames := 0, cells := 0, slots := 0, locals := 0 } : Room) #[(.ref t), (.int (Int32.ofNat n)), (.int (Int32.ofNat i)), (.int x)] h0 [] [] (fun v h _ => v = some (.int 1) ∧ h0 = h) := by
  refine own_con (a0 := a0) hEL (plainFor_of_name pn_com_example_unnest_unnest_value_JsonStringAsciiPinLaw) ?_
  intro p e s m below meth c T hs W0
  have ef : entryFrame m #[(.ref t), (.int (Int32.ofNat n)), (.int (Int32.ofNat i)), (.int x)] 4 = mkF m 0 #[.val (.ref t), .val (.int (Int32.ofNat n)), .val (.int (Int32.ofNat i)), .val (.int x)] [] := own_entry m [(.ref t), (.int (Int32.ofNat n)), (.int (Int32.ofNat i)), (.int x)] 4 (by simp [Value.category]) rfl
  rw [ef]
  refine g_iloadN W0 dP2_0 (pc' := 1) rfl rfl ?_
  refine g_iloadN W0 dP2_1 (pc' := 2) rfl rfl ?_
  rcases Nat.lt_or_ge i n with hin | hin
  · skip
    refine g_icN W0 dP2_2 (pc' := 5) (tlt (own_lt (by omega) hin)).2.1 rfl ?_
    refine g_aloadN W0 dP2_5 (pc' := 6) rfl rfl rfl ?_
    refine g_iloadN W0 dP2_6 (pc' := 7) rfl rfl ?_
    refine g_baload W0 dP2_7 (pc' := 8) rfl K (i := i) rfl (by rw [own_clamp (by omega)]; exact hin) (v := (.int x.toInt8.toInt32)) (hs1 hin) ?_
    refine g_iloadN W0 dP2_8 (pc' := 9) rfl rfl ?_
    refine g_i2b W0 dP2_9 (pc' := 10) rfl ?_
    refine g_icN W0 dP2_10 (pc' := 13) (teq rfl).2 rfl ?_
    refine g_iconst W0 dP2_13 (pc' := 14) rfl (v := 1) rfl ?_
    refine g_goto W0 dP2_14 (pc' := 18) (by decide) (by decide) ?_
    exact g_iret W0 dP2_18 rfl (Or.inr (Or.inl rfl)) rfl ⟨rfl, rfl⟩
  · skip
    refine g_icY W0 dP2_2 (pc' := 13) (flt (own_nlt (by omega) hin)).2.1 (by decide) (by decide) ?_
    refine g_iconst W0 dP2_13 (pc' := 14) rfl (v := 1) rfl ?_
    refine g_goto W0 dP2_14 (pc' := 18) (by decide) (by decide) ?_
    exact g_iret W0 dP2_18 rfl (Or.inr (Or.inl rfl)) rfl ⟨rfl, rfl⟩
set_option maxRecDepth 65536 in
set_option maxHeartbeats 4000000 in
theorem con_cmt (l : Launch) (Z : State) (a0 : Array Value) (hw : ∀ d ∈ tables_1, d.before a0 Z = true) (hEL : EW Z a0 consts_1) (t : Addr) (kb : ClassId) (vs : List Value) (n i : Nat) (x : Int32) (h0 : Heap) (hn : n ≤ 4) (hi : i < 4) (K : Arv Z h0 t kb .byte (Int32.ofNat n) vs (.int 0)) (hs1 : i < n → vs.getD i (.int 0) = .int ((XT.ushr x (16 : Int32))).toInt8.toInt32) :
    Ocon l Z consts_1 (⟨"com/example/unnest/unnest/value/JsonStringAsciiPinLaw", "charMatch", "([BIII)Z"⟩ : MethodName) method_6_code 4 (some .boolean) [] ({ frames := 0, cells := 0, slots := 0, locals := 0 } : Room) #[(.ref t), (.int (Int32.ofNat n)), (.int (Int32.ofNat i)), (.int x)] h0 [] [] (fun v h _ => v = some (.int 1) ∧ h0 = h) := by
  refine own_con (a0 := a0) hEL (plainFor_of_name pn_com_example_unnest_unnest_value_JsonStringAsciiPinLaw) ?_
  intro p e s m below meth c T hs W0
  have ef : entryFrame m #[(.ref t), (.int (Int32.ofNat n)), (.int (Int32.ofNat i)), (.int x)] 4 = mkF m 0 #[.val (.ref t), .val (.int (Int32.ofNat n)), .val (.int (Int32.ofNat i)), .val (.int x)] [] := own_entry m [(.ref t), (.int (Int32.ofNat n)), (.int (Int32.ofNat i)), (.int x)] 4 (by simp [Value.category]) rfl
  rw [ef]
  refine g_iloadN W0 dP3_0 (pc' := 1) rfl rfl ?_
  refine g_iloadN W0 dP3_1 (pc' := 2) rfl rfl ?_
  rcases Nat.lt_or_ge i n with hin | hin
  · skip
    refine g_icN W0 dP3_2 (pc' := 5) (tlt (own_lt (by omega) hin)).2.1 rfl ?_
    refine g_aloadN W0 dP3_5 (pc' := 6) rfl rfl rfl ?_
    refine g_iloadN W0 dP3_6 (pc' := 7) rfl rfl ?_
    refine g_baload W0 dP3_7 (pc' := 8) rfl K (i := i) rfl (by rw [own_clamp (by omega)]; exact hin) (v := (.int (XT.ushr x (16 : Int32)).toInt8.toInt32)) (hs1 hin) ?_
    refine g_iloadN W0 dP3_8 (pc' := 9) rfl rfl ?_
    refine g_bipush W0 dP3_9 (pc' := 11) rfl (v := 16) rfl ?_
    refine g_iushr W0 dP3_11 (pc' := 12) rfl ?_
    refine g_i2b W0 dP3_12 (pc' := 13) rfl ?_
    refine g_icN W0 dP3_13 (pc' := 16) (teq rfl).2 rfl ?_
    refine g_iconst W0 dP3_16 (pc' := 17) rfl (v := 1) rfl ?_
    refine g_goto W0 dP3_17 (pc' := 21) (by decide) (by decide) ?_
    exact g_iret W0 dP3_21 rfl (Or.inr (Or.inl rfl)) rfl ⟨rfl, rfl⟩
  · skip
    refine g_icY W0 dP3_2 (pc' := 16) (flt (own_nlt (by omega) hin)).2.1 (by decide) (by decide) ?_
    refine g_iconst W0 dP3_16 (pc' := 17) rfl (v := 1) rfl ?_
    refine g_goto W0 dP3_17 (pc' := 21) (by decide) (by decide) ?_
    exact g_iret W0 dP3_21 rfl (Or.inr (Or.inl rfl)) rfl ⟨rfl, rfl⟩
theorem pn_com_example_unnest_unnest_value_Value : plainName "com/example/unnest/unnest/value/Value" = true := by first | (simp [plainName, overriddenIn]; done) | decide +kernel
set_option maxRecDepth 65536 in
set_option maxHeartbeats 4000000 in
theorem con_vli (l : Launch) (Z : State) (a0 : Array Value) (hw : ∀ d ∈ tables_1, d.before a0 Z = true) (hEL : EW Z a0 consts_1) (x : Addr) (h0 : Heap) :
    Ocon l Z consts_1 (⟨"com/example/unnest/unnest/value/Value", "<init>", "()V"⟩ : MethodName) prog_99_method_1_code 1 none [] ({ frames := 1, cells := 0, slots := 0, locals := 12 } : Room) #[(.ref x)] h0 [] [] (fun v h _ => v = none ∧ h0 = h) := by
  refine own_con (a0 := a0) hEL (plainFor_of_name pn_com_example_unnest_unnest_value_Value) ?_
  intro p e s m below meth c T hs W0
  have ef : entryFrame m #[(.ref x)] 1 = mkF m 0 #[.val (.ref x)] [] := own_entry m [(.ref x)] 1 (by simp [Value.category]) rfl
  rw [ef]
  refine g_aloadN W0 dP10_0 (pc' := 1) rfl rfl rfl ?_
  refine g_initO W0 dP10_1 (pc' := 4) rfl (hw _ (List.mem_of_getElem? (i := 57) rfl)) (hw _ (List.mem_of_getElem? (i := 14) rfl)) (hw _ (List.mem_of_getElem? (i := 15) rfl)) rfl (by decide) (w := 0) (Nat.le_refl _) (by decide) ?_
  intro T232 W233
  exact g_return W233 dP10_4 rfl ⟨rfl, rfl⟩
theorem pn_com_example_unnest_unnest_value_JsonValue : plainName "com/example/unnest/unnest/value/JsonValue" = true := by first | (simp [plainName, overriddenIn]; done) | decide +kernel
set_option maxRecDepth 65536 in
set_option maxHeartbeats 4000000 in
theorem con_jvi (l : Launch) (Z : State) (a0 : Array Value) (hw : ∀ d ∈ tables_1, d.before a0 Z = true) (hEL : EW Z a0 consts_1) (x : Addr) (h0 : Heap) :
    Ocon l Z consts_1 (⟨"com/example/unnest/unnest/value/JsonValue", "<init>", "()V"⟩ : MethodName) prog_91_method_1_code 1 none [] ({ frames := 2, cells := 0, slots := 0, locals := 24 } : Room) #[(.ref x)] h0 [] [] (fun v h _ => v = none ∧ h0 = h) := by
  refine own_con (a0 := a0) hEL (plainFor_of_name pn_com_example_unnest_unnest_value_JsonValue) ?_
  intro p e s m below meth c T hs W0
  have ef : entryFrame m #[(.ref x)] 1 = mkF m 0 #[.val (.ref x)] [] := own_entry m [(.ref x)] 1 (by simp [Value.category]) rfl
  rw [ef]
  refine g_aloadN W0 dP9_0 (pc' := 1) rfl rfl rfl ?_
  refine g_special W0 dP9_1 (pc' := 4) rfl rfl (hw _ (List.mem_of_getElem? (i := 52) rfl)) (hw _ (List.mem_of_getElem? (i := 53) rfl)) (hw _ (List.mem_of_getElem? (i := 55) rfl)) (hw _ (List.mem_of_getElem? (i := 56) rfl)) (by decide) (con_vli l Z a0 hw hEL x h0) pd___V (argsL := []) (st := []) rfl rfl rfl rfl (by decide) (w := 0) (Nat.le_of_eq rfl) (by decide) (by decide) (by decide) (by simp) (fun q hq => nomatch hq) ?_
  intro v234 T235 h236 S239 q237 W240
  have W238 := W240.sf (SF' := []) (fun _ hx => List.mem_append_right _ hx)
  obtain ⟨rfl, rfl⟩ := q237
  exact g_return W238 dP9_4 rfl ⟨rfl, rfl⟩
theorem pn_com_example_unnest_unnest_value_JsonString : plainName "com/example/unnest/unnest/value/JsonString" = true := by first | (simp [plainName, overriddenIn]; done) | decide +kernel
set_option maxRecDepth 65536 in
set_option maxHeartbeats 4000000 in
theorem con_ji2n (l : Launch) (Z : State) (a0 : Array Value) (hw : ∀ d ∈ tables_1, d.before a0 Z = true) (hEL : EW Z a0 consts_1) (x : Addr) (bb : Addr) (v0 v1 : Value) (h0 : Heap) (E : Exa Z h0 x "com/example/unnest/unnest/value/JsonString") (FL : Fld Z h0 x "com/example/unnest/unnest/value/JsonString" "latin1" "[B" v0) (FV : Fld Z h0 x "com/example/unnest/unnest/value/JsonString" "value" "Ljava/lang/String;" v1) :
    Ocon l Z consts_1 (⟨"com/example/unnest/unnest/value/JsonString", "<init>", "([BLjava/lang/String;)V"⟩ : MethodName) prog_88_method_2_code 3 none [] ({ frames := 3, cells := 0, slots := 0, locals := 36 } : Room) #[(.ref x), (.ref bb), .null] h0 [x] [(⟨x, RoadKit.slotOf Z "com/example/unnest/unnest/value/JsonString" "latin1" "[B"⟩ : Loc), (⟨x, RoadKit.slotOf Z "com/example/unnest/unnest/value/JsonString" "value" "Ljava/lang/String;"⟩ : Loc)] (fun v h _ => v = none ∧ Keep h0 h [x] ∧ Exa Z h x "com/example/unnest/unnest/value/JsonString" ∧ Fld Z h x "com/example/unnest/unnest/value/JsonString" "latin1" "[B" (.ref bb)) := by
  refine own_con (a0 := a0) hEL (plainFor_of_name pn_com_example_unnest_unnest_value_JsonString) ?_
  intro p e s m below meth c T hs W0
  have hsl : RoadKit.slotOf Z "com/example/unnest/unnest/value/JsonString" "latin1" "[B" ≠ RoadKit.slotOf Z "com/example/unnest/unnest/value/JsonString" "value" "Ljava/lang/String;" := slot_ne (t := .array .byte) (t' := .object "java/lang/String") (Or.inr (hw _ (List.mem_of_getElem? (i := 59) rfl))) (Or.inl (hw _ (List.mem_of_getElem? (i := 61) rfl))) (by decide) (by decide) (by decide)
  have ef : entryFrame m #[(.ref x), (.ref bb), .null] 3 = mkF m 0 #[.val (.ref x), .val (.ref bb), .val .null] [] := own_entry m [(.ref x), (.ref bb), .null] 3 (by simp [Value.category]) rfl
  rw [ef]
  refine g_aloadN W0 dP6_0 (pc' := 1) rfl rfl rfl ?_
  refine g_special W0 dP6_1 (pc' := 4) rfl rfl (hw _ (List.mem_of_getElem? (i := 47) rfl)) (hw _ (List.mem_of_getElem? (i := 48) rfl)) (hw _ (List.mem_of_getElem? (i := 50) rfl)) (hw _ (List.mem_of_getElem? (i := 51) rfl)) (by decide) (con_jvi l Z a0 hw hEL x h0) pd___V (argsL := []) (st := []) rfl rfl rfl rfl (by decide) (w := 0) (Nat.le_of_eq rfl) (by decide) (by decide) (by decide) (by simp) (fun q hq => nomatch hq) ?_
  intro v241 T242 h243 S246 q244 W247
  have W245 := W247.sf (SF' := [x]) (fun _ hx => List.mem_append_right _ hx)
  obtain ⟨rfl, rfl⟩ := q244
  refine g_aloadN W245 dP6_4 (pc' := 5) rfl rfl rfl ?_
  refine g_aloadN W245 dP6_5 (pc' := 6) rfl rfl rfl ?_
  refine g_putF W245 dP6_6 (pc' := 9) rfl (hw _ (List.mem_of_getElem? (i := 58) rfl)) FL E (Or.inr ⟨(hw _ (List.mem_of_getElem? (i := 59) rfl)), rfl, rfl⟩) (hw _ (List.mem_of_getElem? (i := 43) rfl)) (ty := .array .byte) (by decide) rfl rfl (by simp) (Or.inl (by simp)) ?_
  intro T248 h249 w250 W251
  refine g_aloadN W251 dP6_9 (pc' := 10) rfl rfl rfl ?_
  refine g_aloadN W251 dP6_10 (pc' := 11) rfl rfl rfl ?_
  refine g_putF W251 dP6_11 (pc' := 14) rfl (hw _ (List.mem_of_getElem? (i := 60) rfl)) (FV.other w250 (Or.inr (Ne.symm hsl))) (E.wr w250) (Or.inl (hw _ (List.mem_of_getElem? (i := 61) rfl))) (hw _ (List.mem_of_getElem? (i := 43) rfl)) (ty := .object "java/lang/String") (by decide) rfl rfl (by simp) (Or.inl (by simp)) ?_
  intro T252 h253 w254 W255
  exact g_return W255 dP6_14 rfl ⟨rfl, ((Keep.refl _ _).wr w250 (Or.inl (by simp))).wr w254 (Or.inl (by simp)), (E.wr w250).wr w254, (FL.same w250).other w254 (Or.inr hsl)⟩
set_option maxRecDepth 65536 in
set_option maxHeartbeats 4000000 in
theorem con_ji2 (l : Launch) (Z : State) (a0 : Array Value) (hw : ∀ d ∈ tables_1, d.before a0 Z = true) (hEL : EW Z a0 consts_1) (x : Addr) (bb sa : Addr) (v0 v1 : Value) (h0 : Heap) (E : Exa Z h0 x "com/example/unnest/unnest/value/JsonString") (FL : Fld Z h0 x "com/example/unnest/unnest/value/JsonString" "latin1" "[B" v0) (FV : Fld Z h0 x "com/example/unnest/unnest/value/JsonString" "value" "Ljava/lang/String;" v1) :
    Ocon l Z consts_1 (⟨"com/example/unnest/unnest/value/JsonString", "<init>", "([BLjava/lang/String;)V"⟩ : MethodName) prog_88_method_2_code 3 none [] ({ frames := 3, cells := 0, slots := 0, locals := 36 } : Room) #[(.ref x), (.ref bb), (.ref sa)] h0 [x] [(⟨x, RoadKit.slotOf Z "com/example/unnest/unnest/value/JsonString" "latin1" "[B"⟩ : Loc), (⟨x, RoadKit.slotOf Z "com/example/unnest/unnest/value/JsonString" "value" "Ljava/lang/String;"⟩ : Loc)] (fun v h _ => v = none ∧ Keep h0 h [x] ∧ Exa Z h x "com/example/unnest/unnest/value/JsonString" ∧ Fld Z h x "com/example/unnest/unnest/value/JsonString" "latin1" "[B" (.ref bb)) := by
  refine own_con (a0 := a0) hEL (plainFor_of_name pn_com_example_unnest_unnest_value_JsonString) ?_
  intro p e s m below meth c T hs W0
  have hsl : RoadKit.slotOf Z "com/example/unnest/unnest/value/JsonString" "latin1" "[B" ≠ RoadKit.slotOf Z "com/example/unnest/unnest/value/JsonString" "value" "Ljava/lang/String;" := slot_ne (t := .array .byte) (t' := .object "java/lang/String") (Or.inr (hw _ (List.mem_of_getElem? (i := 59) rfl))) (Or.inl (hw _ (List.mem_of_getElem? (i := 61) rfl))) (by decide) (by decide) (by decide)
  have ef : entryFrame m #[(.ref x), (.ref bb), (.ref sa)] 3 = mkF m 0 #[.val (.ref x), .val (.ref bb), .val (.ref sa)] [] := own_entry m [(.ref x), (.ref bb), (.ref sa)] 3 (by simp [Value.category]) rfl
  rw [ef]
  refine g_aloadN W0 dP6_0 (pc' := 1) rfl rfl rfl ?_
  refine g_special W0 dP6_1 (pc' := 4) rfl rfl (hw _ (List.mem_of_getElem? (i := 47) rfl)) (hw _ (List.mem_of_getElem? (i := 48) rfl)) (hw _ (List.mem_of_getElem? (i := 50) rfl)) (hw _ (List.mem_of_getElem? (i := 51) rfl)) (by decide) (con_jvi l Z a0 hw hEL x h0) pd___V (argsL := []) (st := []) rfl rfl rfl rfl (by decide) (w := 0) (Nat.le_of_eq rfl) (by decide) (by decide) (by decide) (by simp) (fun q hq => nomatch hq) ?_
  intro v256 T257 h258 S261 q259 W262
  have W260 := W262.sf (SF' := [x]) (fun _ hx => List.mem_append_right _ hx)
  obtain ⟨rfl, rfl⟩ := q259
  refine g_aloadN W260 dP6_4 (pc' := 5) rfl rfl rfl ?_
  refine g_aloadN W260 dP6_5 (pc' := 6) rfl rfl rfl ?_
  refine g_putF W260 dP6_6 (pc' := 9) rfl (hw _ (List.mem_of_getElem? (i := 58) rfl)) FL E (Or.inr ⟨(hw _ (List.mem_of_getElem? (i := 59) rfl)), rfl, rfl⟩) (hw _ (List.mem_of_getElem? (i := 43) rfl)) (ty := .array .byte) (by decide) rfl rfl (by simp) (Or.inl (by simp)) ?_
  intro T263 h264 w265 W266
  refine g_aloadN W266 dP6_9 (pc' := 10) rfl rfl rfl ?_
  refine g_aloadN W266 dP6_10 (pc' := 11) rfl rfl rfl ?_
  refine g_putF W266 dP6_11 (pc' := 14) rfl (hw _ (List.mem_of_getElem? (i := 60) rfl)) (FV.other w265 (Or.inr (Ne.symm hsl))) (E.wr w265) (Or.inl (hw _ (List.mem_of_getElem? (i := 61) rfl))) (hw _ (List.mem_of_getElem? (i := 43) rfl)) (ty := .object "java/lang/String") (by decide) rfl rfl (by simp) (Or.inl (by simp)) ?_
  intro T267 h268 w269 W270
  exact g_return W270 dP6_14 rfl ⟨rfl, ((Keep.refl _ _).wr w265 (Or.inl (by simp))).wr w269 (Or.inl (by simp)), (E.wr w265).wr w269, (FL.same w265).other w269 (Or.inr hsl)⟩
set_option maxRecDepth 65536 in
set_option maxHeartbeats 4000000 in
theorem con_ji1 (l : Launch) (Z : State) (a0 : Array Value) (hw : ∀ d ∈ tables_1, d.before a0 Z = true) (hEL : EW Z a0 consts_1) (x : Addr) (sa : Addr) (v0 v1 : Value) (h0 : Heap) (E : Exa Z h0 x "com/example/unnest/unnest/value/JsonString") (FL : Fld Z h0 x "com/example/unnest/unnest/value/JsonString" "latin1" "[B" v0) (FV : Fld Z h0 x "com/example/unnest/unnest/value/JsonString" "value" "Ljava/lang/String;" v1) :
    Ocon l Z consts_1 (⟨"com/example/unnest/unnest/value/JsonString", "<init>", "(Ljava/lang/String;)V"⟩ : MethodName) prog_88_method_1_code 2 none [] ({ frames := 3, cells := 0, slots := 0, locals := 36 } : Room) #[(.ref x), (.ref sa)] h0 [x] [(⟨x, RoadKit.slotOf Z "com/example/unnest/unnest/value/JsonString" "latin1" "[B"⟩ : Loc), (⟨x, RoadKit.slotOf Z "com/example/unnest/unnest/value/JsonString" "value" "Ljava/lang/String;"⟩ : Loc)] (fun v h _ => v = none ∧ Keep h0 h [x] ∧ Exa Z h x "com/example/unnest/unnest/value/JsonString" ∧ Fld Z h x "com/example/unnest/unnest/value/JsonString" "latin1" "[B" .null) := by
  refine own_con (a0 := a0) hEL (plainFor_of_name pn_com_example_unnest_unnest_value_JsonString) ?_
  intro p e s m below meth c T hs W0
  have hsl : RoadKit.slotOf Z "com/example/unnest/unnest/value/JsonString" "latin1" "[B" ≠ RoadKit.slotOf Z "com/example/unnest/unnest/value/JsonString" "value" "Ljava/lang/String;" := slot_ne (t := .array .byte) (t' := .object "java/lang/String") (Or.inr (hw _ (List.mem_of_getElem? (i := 59) rfl))) (Or.inl (hw _ (List.mem_of_getElem? (i := 61) rfl))) (by decide) (by decide) (by decide)
  have ef : entryFrame m #[(.ref x), (.ref sa)] 2 = mkF m 0 #[.val (.ref x), .val (.ref sa)] [] := own_entry m [(.ref x), (.ref sa)] 2 (by simp [Value.category]) rfl
  rw [ef]
  refine g_aloadN W0 dP7_0 (pc' := 1) rfl rfl rfl ?_
  refine g_special W0 dP7_1 (pc' := 4) rfl rfl (hw _ (List.mem_of_getElem? (i := 47) rfl)) (hw _ (List.mem_of_getElem? (i := 48) rfl)) (hw _ (List.mem_of_getElem? (i := 50) rfl)) (hw _ (List.mem_of_getElem? (i := 51) rfl)) (by decide) (con_jvi l Z a0 hw hEL x h0) pd___V (argsL := []) (st := []) rfl rfl rfl rfl (by decide) (w := 0) (Nat.le_of_eq rfl) (by decide) (by decide) (by decide) (by simp) (fun q hq => nomatch hq) ?_
  intro v271 T272 h273 S276 q274 W277
  have W275 := W277.sf (SF' := [x]) (fun _ hx => List.mem_append_right _ hx)
  obtain ⟨rfl, rfl⟩ := q274
  refine g_aloadN W275 dP7_4 (pc' := 5) rfl rfl rfl ?_
  refine g_aconst_null W275 dP7_5 (pc' := 6) rfl ?_
  refine g_putF W275 dP7_6 (pc' := 9) rfl (hw _ (List.mem_of_getElem? (i := 58) rfl)) FL E (Or.inr ⟨(hw _ (List.mem_of_getElem? (i := 59) rfl)), rfl, rfl⟩) (hw _ (List.mem_of_getElem? (i := 43) rfl)) (ty := .array .byte) (by decide) rfl rfl (by simp) (Or.inl (by simp)) ?_
  intro T278 h279 w280 W281
  refine g_aloadN W281 dP7_9 (pc' := 10) rfl rfl rfl ?_
  refine g_aloadN W281 dP7_10 (pc' := 11) rfl rfl rfl ?_
  refine g_putF W281 dP7_11 (pc' := 14) rfl (hw _ (List.mem_of_getElem? (i := 60) rfl)) (FV.other w280 (Or.inr (Ne.symm hsl))) (E.wr w280) (Or.inl (hw _ (List.mem_of_getElem? (i := 61) rfl))) (hw _ (List.mem_of_getElem? (i := 43) rfl)) (ty := .object "java/lang/String") (by decide) rfl rfl (by simp) (Or.inl (by simp)) ?_
  intro T282 h283 w284 W285
  exact g_return W285 dP7_14 rfl ⟨rfl, ((Keep.refl _ _).wr w280 (Or.inl (by simp))).wr w284 (Or.inl (by simp)), (E.wr w280).wr w284, (FL.same w280).other w284 (Or.inr hsl)⟩
set_option maxRecDepth 65536 in
set_option maxHeartbeats 4000000 in
theorem con_ofl (l : Launch) (Z : State) (a0 : Array Value) (hw : ∀ d ∈ tables_1, d.before a0 Z = true) (hEL : EW Z a0 consts_1) (bb : Addr) (h0 : Heap) :
    Ocon l Z consts_1 (⟨"com/example/unnest/unnest/value/JsonString", "ofLatin1", "([B)Lcom/example/unnest/unnest/value/JsonString;"⟩ : MethodName) prog_88_method_4_code 1 (some (.object "com/example/unnest/unnest/value/JsonString")) [] ({ frames := 4, cells := 1, slots := 3, locals := 51 } : Room) #[(.ref bb)] h0 [] [] (fun v h _ => ∃ a, v = some (.ref a) ∧ Ext h0 h ∧ Exa Z h a "com/example/unnest/unnest/value/JsonString" ∧ Fld Z h a "com/example/unnest/unnest/value/JsonString" "latin1" "[B" (.ref bb)) := by
  refine own_con (a0 := a0) hEL (plainFor_of_name pn_com_example_unnest_unnest_value_JsonString) ?_
  intro p e s m below meth c T hs W0
  have ef : entryFrame m #[(.ref bb)] 1 = mkF m 0 #[.val (.ref bb)] [] := own_entry m [(.ref bb)] 1 (by simp [Value.category]) rfl
  rw [ef]
  refine g_new W0 dP4_0 (pc' := 3) rfl (hw _ (List.mem_of_getElem? (i := 42) rfl)) (hw _ (List.mem_of_getElem? (i := 43) rfl)) (hw _ (List.mem_of_getElem? (i := 40) rfl)) (by decide) (by decide) ?_
  intro T286 h287 E288 A289 D290 U291 W292
  obtain ⟨a293, g294⟩ : ∃ z, z = h0.size := ⟨_, rfl⟩
  rw [← g294] at A289 D290 U291 W292 ⊢
  have na293 : s.heap.size ≤ a293 := by rw [g294]; exact W0.grown
  refine g_dup W292 dP4_3 (pc' := 4) rfl rfl ?_
  refine g_aloadN W292 dP4_4 (pc' := 5) rfl rfl rfl ?_
  refine g_aconst_null W292 dP4_5 (pc' := 6) rfl ?_
  refine g_special W292 dP4_6 (pc' := 9) rfl rfl (hw _ (List.mem_of_getElem? (i := 44) rfl)) (hw _ (List.mem_of_getElem? (i := 45) rfl)) (hw _ (List.mem_of_getElem? (i := 40) rfl)) (hw _ (List.mem_of_getElem? (i := 46) rfl)) (by decide) (con_ji2n l Z a0 hw hEL a293 bb _ _ h287 A289 (D290 (Or.inr (hw _ (List.mem_of_getElem? (i := 59) rfl))) (ty := .array .byte) (by decide)) (D290 (Or.inl (hw _ (List.mem_of_getElem? (i := 61) rfl))) (ty := .object "java/lang/String") (by decide))) pd___BLjava_lang_String__V (argsL := [(.ref bb), .null]) (st := [(.ref a293)]) rfl rfl rfl rfl (by decide) (w := 1) (Nat.le_of_eq rfl) (by decide) (by decide) (by decide) (by simp) (fun q hq => Or.inr (by rcases List.mem_cons.mp hq with rfl | hq; exact na293; cases List.mem_singleton.mp hq; exact na293)) ?_
  intro v295 T296 h297 S300 q298 W301
  have W299 := W301.sf (SF' := [a293]) (fun _ hx => List.mem_append_right _ hx)
  obtain ⟨rfl, K302, E303, F304⟩ := q298
  have X305 := own_ext_keep E288 K302 (by intro y hy; rw [List.mem_singleton.mp hy, g294]; exact Nat.le_refl _)
  exact g_aret W299 dP4_9 rfl rfl rfl rfl ⟨a293, rfl, X305, E303, F304⟩
set_option maxRecDepth 65536 in
set_option maxHeartbeats 4000000 in
theorem con_ascn (l : Launch) (Z : State) (a0 : Array Value) (hw : ∀ d ∈ tables_1, d.before a0 Z = true) (hEL : EW Z a0 consts_1) (x : Addr) (h0 : Heap) (F : Fld Z h0 x "com/example/unnest/unnest/value/JsonString" "latin1" "[B" .null) :
    Ocon l Z consts_1 (⟨"com/example/unnest/unnest/value/JsonString", "ascii", "()[B"⟩ : MethodName) prog_88_method_6_code 3 (some (.array .byte)) [] ({ frames := 0, cells := 0, slots := 0, locals := 0 } : Room) #[(.ref x)] h0 [] [] (fun v h _ => v = some .null ∧ h0 = h) := by
  refine own_con (a0 := a0) hEL (plainFor_of_name pn_com_example_unnest_unnest_value_JsonString) ?_
  intro p e s m below meth c T hs W0
  have ef : entryFrame m #[(.ref x)] 3 = mkF m 0 #[.val (.ref x), .unset, .unset] [] := own_entry m [(.ref x)] 3 (by simp [Value.category]) rfl
  rw [ef]
  refine g_aloadN W0 dP8_0 (pc' := 1) rfl rfl rfl ?_
  refine g_getF W0 dP8_1 (pc' := 4) rfl (hw _ (List.mem_of_getElem? (i := 58) rfl)) F ?_
  intro T307 W306
  refine g_nullY W306 dP8_4 (pc' := 11) (by decide) (by decide) ?_
  refine g_iconst W306 dP8_11 (pc' := 12) rfl (v := 0) rfl ?_
  refine g_istoreN W306 dP8_12 (pc' := 13) rfl (ls' := #[.val (.ref x), .val (.int (0 : Int32)), .unset]) rfl ?_
  refine g_iconst W306 dP8_13 (pc' := 14) rfl (v := 0) rfl ?_
  refine g_istoreN W306 dP8_14 (pc' := 15) rfl (ls' := #[.val (.ref x), .val (.int (0 : Int32)), .val (.int (0 : Int32))]) rfl ?_
  refine g_iloadN W306 dP8_15 (pc' := 16) rfl rfl ?_
  refine g_ifY W306 dP8_16 (pc' := 49) (teq (by decide : (0 : Int32) = (0 : Int32))).1 (by decide) (by decide) ?_
  refine g_iloadN W306 dP8_49 (pc' := 50) rfl rfl ?_
  refine g_ifY W306 dP8_50 (pc' := 60) (teq (by decide : (0 : Int32) = (0 : Int32))).1 (by decide) (by decide) ?_
  refine g_aconst_null W306 dP8_60 (pc' := 61) rfl ?_
  exact g_aret W306 dP8_61 rfl rfl rfl rfl ⟨rfl, rfl⟩
set_option maxRecDepth 65536 in
set_option maxHeartbeats 4000000 in
theorem con_asc (l : Launch) (Z : State) (a0 : Array Value) (hw : ∀ d ∈ tables_1, d.before a0 Z = true) (hEL : EW Z a0 consts_1) (x t : Addr) (kb : ClassId) (bl : List Int32) (h0 : Heap) (hl : bl.length ≤ 4) (F : Fld Z h0 x "com/example/unnest/unnest/value/JsonString" "latin1" "[B" (.ref t)) (K : Arv Z h0 t kb .byte (Int32.ofNat bl.length) (bl.map Value.int) (.int 0)) :
    Ocon l Z consts_1 (⟨"com/example/unnest/unnest/value/JsonString", "ascii", "()[B"⟩ : MethodName) prog_88_method_6_code 3 (some (.array .byte)) [] ({ frames := 0, cells := 0, slots := 0, locals := 0 } : Room) #[(.ref x)] h0 [] [] (fun v h _ => h0 = h ∧ ((v = some (.ref t) ∧ ∀ b ∈ bl, ¬ b < (0 : Int32)) ∨ (v = some .null ∧ ¬ ∀ b ∈ bl, ¬ b < (0 : Int32)))) := by
  refine own_con (a0 := a0) hEL (plainFor_of_name pn_com_example_unnest_unnest_value_JsonString) ?_
  intro p e s m below meth c T hs W0
  have hcl : (Int32.ofNat bl.length).toNatClampNeg = bl.length := own_clamp (by omega)
  have loop : ∀ (kk i : Nat) (T : State), i + kk = bl.length → (∀ i', i' < i → ¬ bl.getD i' 0 < (0 : Int32)) → Owk p l e ({ frames := 0, cells := 0, slots := 0, locals := 0 } : Room) s m #[(.ref x)] below meth c Z a0 consts_1 [] "com/example/unnest/unnest/value/JsonString" "ascii" prog_88_method_6_code 3 (some (.array .byte)) T h0 [] 0 0 → Ogo p l e ({ frames := 0, cells := 0, slots := 0, locals := 0 } : Room) s m #[(.ref x)] below meth c Z a0 consts_1 [] "com/example/unnest/unnest/value/JsonString" "ascii" prog_88_method_6_code 3 (some (.array .byte)) T (mkF m 15 #[.val (.ref x), .val (.int (1 : Int32)), .val (.int (Int32.ofNat i))] []) (fun v h _ => h0 = h ∧ ((v = some (.ref t) ∧ ∀ b ∈ bl, ¬ b < (0 : Int32)) ∨ (v = some .null ∧ ¬ ∀ b ∈ bl, ¬ b < (0 : Int32)))) := by
    intro kk
    induction kk with
    | zero =>
      intro i T hi hb W0
      refine g_iloadN W0 dP8_15 (pc' := 16) rfl rfl ?_
      refine g_ifN W0 dP8_16 (pc' := 19) (feq (by decide : ¬ ((1 : Int32) = (0 : Int32)))).1 rfl ?_
      refine g_iloadN W0 dP8_19 (pc' := 20) rfl rfl ?_
      refine g_aloadN W0 dP8_20 (pc' := 21) rfl rfl rfl ?_
      refine g_getF W0 dP8_21 (pc' := 24) rfl (hw _ (List.mem_of_getElem? (i := 58) rfl)) F ?_
      intro T309 W308
      refine g_alen W308 dP8_24 (pc' := 25) rfl K ?_
      refine g_icY W308 dP8_25 (pc' := 49) (flt (own_nlt (by omega) (by omega))).2.1 (by decide) (by decide) ?_
      refine g_iloadN W308 dP8_49 (pc' := 50) rfl rfl ?_
      refine g_ifN W308 dP8_50 (pc' := 53) (feq (by decide : ¬ ((1 : Int32) = (0 : Int32)))).1 rfl ?_
      refine g_aloadN W308 dP8_53 (pc' := 54) rfl rfl rfl ?_
      refine g_getF W308 dP8_54 (pc' := 57) rfl (hw _ (List.mem_of_getElem? (i := 58) rfl)) F ?_
      intro T311 W310
      refine g_goto W310 dP8_57 (pc' := 61) (by decide) (by decide) ?_
      exact g_aret W310 dP8_61 rfl rfl rfl rfl ⟨rfl, Or.inl ⟨rfl, own_allg (fun i' hi' => hb i' (by omega))⟩⟩
    | succ kk ih =>
      intro i T hi hb W0
      have hin : i < bl.length := by omega
      refine g_iloadN W0 dP8_15 (pc' := 16) rfl rfl ?_
      refine g_ifN W0 dP8_16 (pc' := 19) (feq (by decide : ¬ ((1 : Int32) = (0 : Int32)))).1 rfl ?_
      refine g_iloadN W0 dP8_19 (pc' := 20) rfl rfl ?_
      refine g_aloadN W0 dP8_20 (pc' := 21) rfl rfl rfl ?_
      refine g_getF W0 dP8_21 (pc' := 24) rfl (hw _ (List.mem_of_getElem? (i := 58) rfl)) F ?_
      intro T313 W312
      refine g_alen W312 dP8_24 (pc' := 25) rfl K ?_
      refine g_icN W312 dP8_25 (pc' := 28) (tlt (own_lt (by omega) hin)).2.1 rfl ?_
      refine g_aloadN W312 dP8_28 (pc' := 29) rfl rfl rfl ?_
      refine g_getF W312 dP8_29 (pc' := 32) rfl (hw _ (List.mem_of_getElem? (i := 58) rfl)) F ?_
      intro T315 W314
      refine g_iloadN W314 dP8_32 (pc' := 33) rfl rfl ?_
      refine g_baload W314 dP8_33 (pc' := 34) rfl K (i := i) rfl (by rw [hcl]; exact hin) (v := (.int (bl.getD i 0))) (own_getI bl _ hin) ?_
      by_cases c316 : (bl.getD i 0) < (0 : Int32)
      · skip
        refine g_ifY W314 dP8_34 (pc' := 41) (tlt c316).1 (by decide) (by decide) ?_
        refine g_iconst W314 dP8_41 (pc' := 42) rfl (v := 0) rfl ?_
        refine g_istoreN W314 dP8_42 (pc' := 43) rfl (ls' := #[.val (.ref x), .val (.int (0 : Int32)), .val (.int (Int32.ofNat i))]) rfl ?_
        refine g_iinc W314 dP8_43 (pc' := 46) (v := Int32.ofNat (i + 1)) (ls' := #[.val (.ref x), .val (.int (0 : Int32)), .val (.int (Int32.ofNat (i + 1)))]) rfl rfl (own_succ i) rfl ?_
        refine g_goto W314 dP8_46 (pc' := 15) (by decide) (by decide) ?_
        refine g_iloadN W314 dP8_15 (pc' := 16) rfl rfl ?_
        refine g_ifY W314 dP8_16 (pc' := 49) (teq (by decide : (0 : Int32) = (0 : Int32))).1 (by decide) (by decide) ?_
        refine g_iloadN W314 dP8_49 (pc' := 50) rfl rfl ?_
        refine g_ifY W314 dP8_50 (pc' := 60) (teq (by decide : (0 : Int32) = (0 : Int32))).1 (by decide) (by decide) ?_
        refine g_aconst_null W314 dP8_60 (pc' := 61) rfl ?_
        exact g_aret W314 dP8_61 rfl rfl rfl rfl ⟨rfl, Or.inr ⟨rfl, fun q => q _ (own_mem hin) c316⟩⟩
      · skip
        refine g_ifN W314 dP8_34 (pc' := 37) (flt c316).1 rfl ?_
        refine g_iconst W314 dP8_37 (pc' := 38) rfl (v := 1) rfl ?_
        refine g_goto W314 dP8_38 (pc' := 42) (by decide) (by decide) ?_
        refine g_istoreN W314 dP8_42 (pc' := 43) rfl (ls' := #[.val (.ref x), .val (.int (1 : Int32)), .val (.int (Int32.ofNat i))]) rfl ?_
        refine g_iinc W314 dP8_43 (pc' := 46) (v := Int32.ofNat (i + 1)) (ls' := #[.val (.ref x), .val (.int (1 : Int32)), .val (.int (Int32.ofNat (i + 1)))]) rfl rfl (own_succ i) rfl ?_
        refine g_goto W314 dP8_46 (pc' := 15) (by decide) (by decide) ?_
        refine ih (i + 1) T315 (by omega) (fun i' hi' => ?_) W314
        by_cases q : i' = i
        · subst q; exact c316
        · exact hb i' (by omega)
  have ef : entryFrame m #[(.ref x)] 3 = mkF m 0 #[.val (.ref x), .unset, .unset] [] := own_entry m [(.ref x)] 3 (by simp [Value.category]) rfl
  rw [ef]
  refine g_aloadN W0 dP8_0 (pc' := 1) rfl rfl rfl ?_
  refine g_getF W0 dP8_1 (pc' := 4) rfl (hw _ (List.mem_of_getElem? (i := 58) rfl)) F ?_
  intro T318 W317
  refine g_nullN W317 dP8_4 (pc' := 7) rfl ?_
  refine g_iconst W317 dP8_7 (pc' := 8) rfl (v := 1) rfl ?_
  refine g_goto W317 dP8_8 (pc' := 12) (by decide) (by decide) ?_
  refine g_istoreN W317 dP8_12 (pc' := 13) rfl (ls' := #[.val (.ref x), .val (.int (1 : Int32)), .unset]) rfl ?_
  refine g_iconst W317 dP8_13 (pc' := 14) rfl (v := 0) rfl ?_
  refine g_istoreN W317 dP8_14 (pc' := 15) rfl (ls' := #[.val (.ref x), .val (.int (1 : Int32)), .val (.int (0 : Int32))]) rfl ?_
  exact loop bl.length 0 T318 (by omega) (fun i' hi' => absurd hi' (Nat.not_lt_zero _)) W317
set_option maxRecDepth 65536 in
set_option maxHeartbeats 4000000 in
theorem con_of (l : Launch) (Z : State) (a0 : Array Value) (hw : ∀ d ∈ tables_1, d.before a0 Z = true) (hEL : EW Z a0 consts_1) (sa : Addr) (cs : List Int32) (zc : Int32) (SC : Sta Z Z.heap "java/lang/String" "COMPACT_STRINGS" "Z" (.int zc)) (hzc : ¬ zc = 0) (fm : Value) (hfm : fm.isRef = true) (SF1 : Sta Z Z.heap "jdk/internal/util/Preconditions" "SIOOBE_FORMATTER" "Ljava/util/function/BiFunction;" fm) (h0 : Heap) (O : Ext Z.heap h0) (SA : Sta Z Z.heap "java/lang/StringUTF16" "$assertionsDisabled" "Z" (.int 1)) (SH : Sta Z Z.heap "java/lang/StringUTF16" "HI_BYTE_SHIFT" "I" (.int 0)) (SL : Sta Z Z.heap "java/lang/StringUTF16" "LO_BYTE_SHIFT" "I" (.int 8)) (S : OStr Z h0 sa cs) (hl : cs.length ≤ 4) :
    Ocon l Z consts_1 (⟨"com/example/unnest/unnest/value/JsonString", "of", "(Ljava/lang/String;)Lcom/example/unnest/unnest/value/JsonString;"⟩ : MethodName) prog_88_method_3_code 4 (some (.object "com/example/unnest/unnest/value/JsonString")) [] ({ frames := 5, cells := 2, slots := 7, locals := 67 } : Room) #[(.ref sa)] h0 [] [] (fun v h _ => ∃ a, v = some (.ref a) ∧ Ext h0 h ∧ Exa Z h a "com/example/unnest/unnest/value/JsonString" ∧ (((∀ c ∈ cs, ¬ (255 : Int32) < c) ∧ ∃ (t : Addr) (kb : ClassId), Fld Z h a "com/example/unnest/unnest/value/JsonString" "latin1" "[B" (.ref t) ∧ Arv Z h t kb .byte (Int32.ofNat cs.length) (cs.map fun c => Value.int (StrChars.lo8 c)) (.int 0)) ∨ ((∃ c ∈ cs, (255 : Int32) < c) ∧ Fld Z h a "com/example/unnest/unnest/value/JsonString" "latin1" "[B" .null))) := by
  refine own_con (a0 := a0) hEL (plainFor_of_name pn_com_example_unnest_unnest_value_JsonString) ?_
  intro p e s m below meth c T hs W0
  have hcl : (Int32.ofNat cs.length).toNatClampNeg = cs.length := own_clamp (by omega)
  have loop : ∀ (t : Addr) (kb : ClassId) (kk i : Nat) (T : State) (h : Heap) (s3 : Slot), h0.size ≤ t → i + kk = cs.length → (∀ i', i' < i → ¬ (255 : Int32) < cs.getD i' 0) → One s3 → Ext h0 h → Arv Z h t kb .byte (Int32.ofNat cs.length) (own_cmp cs cs.length i) (.int 0) → Owk p l e ({ frames := 5, cells := 2, slots := 7, locals := 67 } : Room) s m #[(.ref sa)] below meth c Z a0 consts_1 [] "com/example/unnest/unnest/value/JsonString" "of" prog_88_method_3_code 4 (some (.object "com/example/unnest/unnest/value/JsonString")) T h [t] 1 4 → Ogo p l e ({ frames := 5, cells := 2, slots := 7, locals := 67 } : Room) s m #[(.ref sa)] below meth c Z a0 consts_1 [] "com/example/unnest/unnest/value/JsonString" "of" prog_88_method_3_code 4 (some (.object "com/example/unnest/unnest/value/JsonString")) T (mkF m 9 #[.val (.ref sa), .val (.ref t), .val (.int (Int32.ofNat i)), s3] []) (fun v h _ => ∃ a, v = some (.ref a) ∧ Ext h0 h ∧ Exa Z h a "com/example/unnest/unnest/value/JsonString" ∧ (((∀ c ∈ cs, ¬ (255 : Int32) < c) ∧ ∃ (t : Addr) (kb : ClassId), Fld Z h a "com/example/unnest/unnest/value/JsonString" "latin1" "[B" (.ref t) ∧ Arv Z h t kb .byte (Int32.ofNat cs.length) (cs.map fun c => Value.int (StrChars.lo8 c)) (.int 0)) ∨ ((∃ c ∈ cs, (255 : Int32) < c) ∧ Fld Z h a "com/example/unnest/unnest/value/JsonString" "latin1" "[B" .null))) := by
    intro t kb kk
    induction kk with
    | zero =>
      intro i T h s3 ht hi hb h3 X hD W0
      obtain rfl : i = cs.length := by omega
      rw [own_cmpn cs rfl] at hD
      refine g_iloadN W0 dP5_9 (pc' := 10) rfl rfl ?_
      refine g_aloadN W0 dP5_10 (pc' := 11) rfl rfl rfl ?_
      refine g_alen W0 dP5_11 (pc' := 12) rfl hD ?_
      refine g_icY W0 dP5_12 (pc' := 48) (flt Int32.lt_irrefl).2.1 (by decide) (by decide) ?_
      refine g_new W0 dP5_48 (pc' := 51) rfl (hw _ (List.mem_of_getElem? (i := 42) rfl)) (hw _ (List.mem_of_getElem? (i := 43) rfl)) (hw _ (List.mem_of_getElem? (i := 40) rfl)) (by decide) (by decide) ?_
      intro T319 h320 E321 A322 D323 U324 W325
      obtain ⟨a326, g327⟩ : ∃ z, z = h.size := ⟨_, rfl⟩
      rw [← g327] at A322 D323 U324 W325 ⊢
      have na326 : s.heap.size ≤ a326 := by rw [g327]; exact W0.grown
      refine g_dup W325 dP5_51 (pc' := 52) rfl rfl ?_
      refine g_aloadN W325 dP5_52 (pc' := 53) rfl rfl rfl ?_
      refine g_aloadN W325 dP5_53 (pc' := 54) rfl rfl rfl ?_
      refine g_special W325 dP5_54 (pc' := 57) rfl rfl (hw _ (List.mem_of_getElem? (i := 44) rfl)) (hw _ (List.mem_of_getElem? (i := 45) rfl)) (hw _ (List.mem_of_getElem? (i := 40) rfl)) (hw _ (List.mem_of_getElem? (i := 46) rfl)) (by decide) (con_ji2 l Z a0 hw hEL a326 t sa _ _ h320 A322 (D323 (Or.inr (hw _ (List.mem_of_getElem? (i := 59) rfl))) (ty := .array .byte) (by decide)) (D323 (Or.inl (hw _ (List.mem_of_getElem? (i := 61) rfl))) (ty := .object "java/lang/String") (by decide))) pd___BLjava_lang_String__V (argsL := [(.ref t), (.ref sa)]) (st := [(.ref a326)]) rfl rfl rfl rfl (by decide) (w := 1) (Nat.le_of_eq rfl) (by decide) (by decide) (by decide) (by simp) (fun q hq => Or.inr (by rcases List.mem_cons.mp hq with rfl | hq; exact na326; cases List.mem_singleton.mp hq; exact na326)) ?_
      intro v328 T329 h330 S333 q331 W334
      have W332 := W334.sf (SF' := [a326, t]) (fun _ hx => List.mem_append_right _ hx)
      obtain ⟨rfl, K335, E336, F337⟩ := q331
      have X338 := own_ext_keep E321 K335 (by intro y hy; rw [List.mem_singleton.mp hy, g327]; exact Nat.le_refl _)
      exact g_aret W332 dP5_57 rfl rfl rfl rfl ⟨a326, rfl, own_ext_tr X X338, E336, Or.inl ⟨own_all rfl hb, t, kb, F337, hD.ext X338⟩⟩
    | succ kk ih =>
      intro i T h s3 ht hi hb h3 X hD W0
      have hin : i < cs.length := by omega
      refine g_iloadN W0 dP5_9 (pc' := 10) rfl rfl ?_
      refine g_aloadN W0 dP5_10 (pc' := 11) rfl rfl rfl ?_
      refine g_alen W0 dP5_11 (pc' := 12) rfl hD ?_
      refine g_icN W0 dP5_12 (pc' := 15) (tlt (own_lt (by omega) hin)).2.1 rfl ?_
      refine g_aloadN W0 dP5_15 (pc' := 16) rfl rfl rfl ?_
      refine g_iloadN W0 dP5_16 (pc' := 17) rfl rfl ?_
      refine g_virtual W0 dP5_17 (pc' := 20) (C := "java/lang/String") rfl (hw _ (List.mem_of_getElem? (i := 83) rfl)) (hw _ (List.mem_of_getElem? (i := 84) rfl)) (hw _ (List.mem_of_getElem? (i := 86) rfl)) (hw _ (List.mem_of_getElem? (i := 86) rfl)) (hw _ (List.mem_of_getElem? (i := 85) rfl)) (hw _ (List.mem_of_getElem? (i := 5) rfl)) (hw _ (List.mem_of_getElem? (i := 87) rfl)) (by decide) (S.ext X).1 (con_cha l Z a0 hw hEL sa cs i zc SC hzc fm hfm SF1 h (own_ext_tr O X) SA SH SL (S.ext X) hin (by omega)) pd__I_C (argsL := [(.int (Int32.ofNat i))]) (st := []) rfl rfl rfl rfl (by decide) (w := 0) (Nat.le_of_eq rfl) (by decide) (by decide) (by decide) (by simp) (fun q hq => nomatch hq) ?_
      intro v339 T340 h341 S344 q342 W345
      have W343 := W345.sf (SF' := [t]) (fun _ hx => List.mem_append_right _ hx)
      obtain ⟨rfl, rfl⟩ := q342
      refine g_istoreN W343 dP5_20 (pc' := 21) (ls' := #[.val (.ref sa), .val (.ref t), .val (.int (Int32.ofNat i)), .val (.int (cs.getD i 0))]) rfl (XS.store1 (o := s3) rfl h3 rfl) ?_
      refine g_iloadN W343 dP5_21 (pc' := 22) rfl rfl ?_
      refine g_sipush W343 dP5_22 (pc' := 25) rfl (v := 255) rfl ?_
      by_cases c346 : (255 : Int32) < (cs.getD i 0)
      · skip
        refine g_icN W343 dP5_25 (pc' := 28) (tlt c346).2.2.2 rfl ?_
        refine g_new W343 dP5_28 (pc' := 31) rfl (hw _ (List.mem_of_getElem? (i := 42) rfl)) (hw _ (List.mem_of_getElem? (i := 43) rfl)) (hw _ (List.mem_of_getElem? (i := 40) rfl)) (by decide) (by decide) ?_
        intro T347 h348 E349 A350 D351 U352 W353
        obtain ⟨a354, g355⟩ : ∃ z, z = h.size := ⟨_, rfl⟩
        rw [← g355] at A350 D351 U352 W353 ⊢
        have na354 : s.heap.size ≤ a354 := by rw [g355]; exact W343.grown
        refine g_dup W353 dP5_31 (pc' := 32) rfl rfl ?_
        refine g_aloadN W353 dP5_32 (pc' := 33) rfl rfl rfl ?_
        refine g_special W353 dP5_33 (pc' := 36) rfl rfl (hw _ (List.mem_of_getElem? (i := 141) rfl)) (hw _ (List.mem_of_getElem? (i := 110) rfl)) (hw _ (List.mem_of_getElem? (i := 40) rfl)) (hw _ (List.mem_of_getElem? (i := 111) rfl)) (by decide) (con_ji1 l Z a0 hw hEL a354 sa _ _ h348 A350 (D351 (Or.inr (hw _ (List.mem_of_getElem? (i := 59) rfl))) (ty := .array .byte) (by decide)) (D351 (Or.inl (hw _ (List.mem_of_getElem? (i := 61) rfl))) (ty := .object "java/lang/String") (by decide))) pd__Ljava_lang_String__V (argsL := [(.ref sa)]) (st := [(.ref a354)]) rfl rfl rfl rfl (by decide) (w := 1) (Nat.le_of_eq rfl) (by decide) (by decide) (by decide) (by simp) (fun q hq => Or.inr (by rcases List.mem_cons.mp hq with rfl | hq; exact na354; cases List.mem_singleton.mp hq; exact na354)) ?_
        intro v356 T357 h358 S361 q359 W362
        have W360 := W362.sf (SF' := [a354, t]) (fun _ hx => List.mem_append_right _ hx)
        obtain ⟨rfl, K363, E364, F365⟩ := q359
        have X366 := own_ext_keep E349 K363 (by intro y hy; rw [List.mem_singleton.mp hy, g355]; exact Nat.le_refl _)
        exact g_aret W360 dP5_36 rfl rfl rfl rfl ⟨a354, rfl, own_ext_tr X X366, E364, Or.inr ⟨⟨_, own_mem hin, c346⟩, F365⟩⟩
      · skip
        refine g_icY W343 dP5_25 (pc' := 37) (flt c346).2.2.2 (by decide) (by decide) ?_
        refine g_aloadN W343 dP5_37 (pc' := 38) rfl rfl rfl ?_
        refine g_iloadN W343 dP5_38 (pc' := 39) rfl rfl ?_
        refine g_iloadN W343 dP5_39 (pc' := 40) rfl rfl ?_
        refine g_i2b W343 dP5_40 (pc' := 41) rfl ?_
        refine g_bastore W343 dP5_41 (pc' := 42) rfl hD (i := i) rfl (by rw [hcl]; exact hin) (by rw [own_cmplen cs rfl (by omega)]; exact hin) (own_lo8 _) (own_cmpset cs rfl hin) (by simp) (Or.inr (by rw [hs]; exact ht)) ?_
        intro T367 h368 w369 A370 W371
        refine g_iinc W371 dP5_42 (pc' := 45) (v := Int32.ofNat (i + 1)) (ls' := #[.val (.ref sa), .val (.ref t), .val (.int (Int32.ofNat (i + 1))), .val (.int (cs.getD i 0))]) rfl rfl (own_succ i) rfl ?_
        refine g_goto W371 dP5_45 (pc' := 9) (by decide) (by decide) ?_
        refine ih (i + 1) T367 h368 _ ht (by omega) (fun i' hi' => ?_) (One.val rfl) (own_ext_wr X w369 ht) A370 W371
        by_cases q : i' = i
        · subst q; exact c346
        · exact hb i' (by omega)
  have ef : entryFrame m #[(.ref sa)] 4 = mkF m 0 #[.val (.ref sa), .unset, .unset, .unset] [] := own_entry m [(.ref sa)] 4 (by simp [Value.category]) rfl
  rw [ef]
  refine g_aloadN W0 dP5_0 (pc' := 1) rfl rfl rfl ?_
  obtain ⟨u376_E, u377_B, u378_t, u379_k, u380_c, u381_N, u382_v, u383_V, u384_C, u385_A, u386_D⟩ := id (S)
  refine g_virtualB W0 dP5_1 (pc' := 4) (C := "java/lang/String") rfl (hw _ (List.mem_of_getElem? (i := 73) rfl)) (hw _ (List.mem_of_getElem? (i := 74) rfl)) (hw _ (List.mem_of_getElem? (i := 76) rfl)) (hw _ (List.mem_of_getElem? (i := 76) rfl)) (hw _ (List.mem_of_getElem? (i := 75) rfl)) (by decide) u376_E (fun vm0 hZ0 => StrChars.Road.lenW (s := s.setVm vm0) (W := 0) hZ0 (fun d hd => hw d (own_wlen_ d hd)) (hw _ (List.mem_of_getElem? (i := 4) rfl)) u376_E u383_V u384_C u385_A u386_D u377_B (SC.ext O) hzc (by omega) (by decide) (by decide)) pd___I (argsL := []) (st := []) rfl rfl rfl rfl (Nat.le_of_eq rfl) ?_
  intro v372 T373 q374 W375
  subst q374
  refine g_newP W375 dP5_4 (pc' := 6) (cap := 4) rfl (ty := .byte) (dv := (.int 0)) rfl rfl (hw _ (List.mem_of_getElem? (i := 1) rfl)) (own_nn (by omega)) (by rw [hcl]; exact hl) (by decide) (by decide) (by decide) ?_
  intro T387 h388 cA389 E390 A391 W392
  obtain ⟨a393, g394⟩ : ∃ z, z = h0.size := ⟨_, rfl⟩
  rw [← g394] at A391 W392 ⊢
  refine g_astoreN W392 dP5_6 (pc' := 7) rfl (ls' := #[.val (.ref sa), .val (.ref a393), .unset, .unset]) rfl rfl ?_
  refine g_iconst W392 dP5_7 (pc' := 8) rfl (v := 0) rfl ?_
  refine g_istoreN W392 dP5_8 (pc' := 9) rfl (ls' := #[.val (.ref sa), .val (.ref a393), .val (.int (0 : Int32)), .unset]) rfl ?_
  exact loop a393 _ cs.length 0 T387 h388 .unset ((by first | exact Nat.le_refl _ | exact Nat.le_of_eq g394.symm)) (by omega) (fun i' hi' => absurd hi' (Nat.not_lt_zero _)) One.u E390 (by rw [own_cmp0]; exact own_pad0 _ A391) W392
def own_b4 (n : Nat) (a b c d : Int32) : Prop := (0 < n → (a &&& (128 : Int32)) = (0 : Int32)) ∧ (1 < n → (b &&& (128 : Int32)) = (0 : Int32)) ∧ (2 < n → (c &&& (128 : Int32)) = (0 : Int32)) ∧ (3 < n → (d &&& (128 : Int32)) = (0 : Int32))
def own_c4 (n : Nat) (a b c d : Int32) : Prop := (0 < n → (XT.ushr a (16 : Int32)) < (128 : Int32)) ∧ (1 < n → (XT.ushr b (16 : Int32)) < (128 : Int32)) ∧ (2 < n → (XT.ushr c (16 : Int32)) < (128 : Int32)) ∧ (3 < n → (XT.ushr d (16 : Int32)) < (128 : Int32))
def own_by (n : Nat) (a b c d : Int32) : List Int32 := ([a, b, c, d].take n).map fun x => x.toInt8.toInt32
def own_cs (n : Nat) (a b c d : Int32) : List Int32 := ([a, b, c, d].take n).map fun x => XT.ushr x (16 : Int32)
theorem own_lt5 {n : Nat} (h : n < 5) : n = 0 ∨ n = 1 ∨ n = 2 ∨ n = 3 ∨ n = 4 := by omega
theorem own_sgn (x : Int32) : (x &&& (128 : Int32)) = (0 : Int32) ↔ ¬ x.toInt8.toInt32 < (0 : Int32) := by
  have e1 : (x.toInt8.toInt32).toInt = x.toInt8.toInt := Int8.toInt_toInt32 _
  have e2 : x.toInt8.toInt = (x.toBitVec.setWidth 8).toInt := by
    show (x.toBitVec.signExtend 8).toInt = _
    rw [BitVec.signExtend_eq_setWidth_of_le _ (by decide)]
  have e3 : (x &&& (128 : Int32)).toBitVec = x.toBitVec &&& 128#32 := rfl
  rw [Int32.lt_iff_toInt_lt, e1, e2, show (0 : Int32).toInt = 0 from rfl, ← Int32.toBitVec_inj, e3, show (0 : Int32).toBitVec = 0#32 from rfl]
  generalize x.toBitVec = y
  have hm : (y.setWidth 8).toInt < 0 ↔ (y.setWidth 8).msb = true := by rw [BitVec.msb_eq_toInt]; simp
  rw [hm]
  have q : (y.setWidth 8).msb = y.getLsbD 7 := by simp [BitVec.msb_eq_getLsbD_last, BitVec.getLsbD_setWidth]
  rw [q]
  constructor
  · intro z hz
    have := congrArg (fun w => w.getLsbD 7) z
    simp at this
    rw [BitVec.getLsbD_eq_getElem (by decide), this] at hz
    cases hz
  · intro z
    apply BitVec.eq_of_getLsbD_eq
    intro i hi
    simp only [BitVec.getLsbD_and, BitVec.getLsbD_zero]
    by_cases h7 : i = 7
    · subst h7; simp at z; simp [z]
    · have : (128#32).getLsbD i = false := by
        have t : ∀ k : Fin 32, k.val ≠ 7 → (128#32).getLsbD k.val = false := by decide
        exact t ⟨i, hi⟩ h7
      simp [this]
theorem own_ur (x : Int32) : 0 ≤ (XT.ushr x (16 : Int32)).toInt ∧ (XT.ushr x (16 : Int32)).toInt < 65536 := by
  have u := c_iushr x 16 16 (by decide) (by decide)
  have e : (XT.ushr x (16 : Int32)).toInt = (x.toUInt32 >>> ((16 : Int32) &&& 31).toUInt32).toInt32.toInt := rfl
  rw [e, u]
  omega
theorem own_ub (x : Int32) : ¬ XT.ushr x (16 : Int32) < 0 ∧ ¬ (65535 : Int32) < XT.ushr x (16 : Int32) := by
  have q := own_ur x
  rw [Int32.lt_iff_toInt_lt, Int32.lt_iff_toInt_lt, show (0 : Int32).toInt = 0 from rfl, show (65535 : Int32).toInt = 65535 from rfl]
  omega
theorem own_u2c (x : Int32) : (XT.ushr x (16 : Int32)).toUInt32.toUInt16.toUInt32.toInt32 = XT.ushr x (16 : Int32) := by
  have q := own_ur x
  have r := c_i2c (XT.ushr x (16 : Int32))
  apply Int32.toInt_inj.mp
  omega
theorem own_c128 {c : Int32} (h : ¬ c < 0 ∧ ¬ (65535 : Int32) < c) : c < (128 : Int32) ↔ ¬ (255 : Int32) < c ∧ ¬ c.toInt8.toInt32 < (0 : Int32) := by
  obtain ⟨h0, h1⟩ := h
  have r := c_i2b c
  rw [Int32.lt_iff_toInt_lt] at h0 h1 ⊢
  rw [Int32.lt_iff_toInt_lt, Int32.lt_iff_toInt_lt]
  rw [show (0 : Int32).toInt = 0 from rfl] at *
  rw [show (65535 : Int32).toInt = 65535 from rfl] at h1
  rw [show (128 : Int32).toInt = 128 from rfl, show (255 : Int32).toInt = 255 from rfl]
  omega
theorem own_B {n : Nat} (hn : n < 5) (a b c d : Int32) : own_b4 n a b c d ↔ ∀ v ∈ own_by n a b c d, ¬ v < (0 : Int32) := by
  rcases own_lt5 hn with rfl | rfl | rfl | rfl | rfl <;> simp [own_b4, own_by, own_sgn]
theorem own_C {n : Nat} (hn : n < 5) (a b c d : Int32) : own_c4 n a b c d ↔ (∀ v ∈ own_cs n a b c d, ¬ (255 : Int32) < v) ∧ ∀ v ∈ (own_cs n a b c d).map fun x => x.toInt8.toInt32, ¬ v < (0 : Int32) := by
  have qa := own_c128 (own_ub a); have qb := own_c128 (own_ub b); have qc := own_c128 (own_ub c); have qd := own_c128 (own_ub d)
  rcases own_lt5 hn with rfl | rfl | rfl | rfl | rfl
  · simp [own_c4, own_cs]
  · simp only [own_c4, own_cs, qa, qb, qc, qd]; simp
  · simp only [own_c4, own_cs, qa, qb, qc, qd]; simp; constructor <;> (intro z; simp_all)
  · simp only [own_c4, own_cs, qa, qb, qc, qd]; simp; constructor <;> (intro z; simp_all)
  · simp only [own_c4, own_cs, qa, qb, qc, qd]; simp; constructor <;> (intro z; simp_all)
theorem own_bylen {n : Nat} (hn : n < 5) (a b c d : Int32) : (own_by n a b c d).length = n := by simp [own_by]; omega
theorem own_cslen {n : Nat} (hn : n < 5) (a b c d : Int32) : (own_cs n a b c d).length = n := by simp [own_cs]; omega
theorem own_csb {n : Nat} (a b c d : Int32) : ∀ v ∈ own_cs n a b c d, ¬ v < 0 ∧ ¬ (65535 : Int32) < v := fun v hv => by
  obtain ⟨x, -, rfl⟩ := List.mem_map.mp hv
  exact own_ub x
theorem own_byget {n i : Nat} (a b c d : Int32) (hi : i < n) (h4 : i < 4) : ((own_by n a b c d).map Value.int).getD i (.int 0) = .int ([a, b, c, d].getD i 0).toInt8.toInt32 := by
  obtain rfl | rfl | rfl | rfl : i = 0 ∨ i = 1 ∨ i = 2 ∨ i = 3 := by omega
  all_goals simp [own_by, List.getD_eq_getElem?_getD, List.getElem?_take, hi]
theorem own_csget {n i : Nat} (a b c d : Int32) (hi : i < n) (h4 : i < 4) : ((own_cs n a b c d).map fun c => Value.int (StrChars.lo8 c)).getD i (.int 0) = .int (XT.ushr ([a, b, c, d].getD i 0) (16 : Int32)).toInt8.toInt32 := by
  obtain rfl | rfl | rfl | rfl : i = 0 ∨ i = 1 ∨ i = 2 ∨ i = 3 := by omega
  all_goals simp [own_cs, StrChars.lo8, List.getD_eq_getElem?_getD, List.getElem?_take, hi]
set_option maxRecDepth 65536 in
set_option maxHeartbeats 4000000 in
theorem con_law (l : Launch) (Z : State) (a0 : Array Value) (hw : ∀ d ∈ tables_1, d.before a0 Z = true) (hEL : EW Z a0 consts_1) (zc : Int32) (SC : Sta Z Z.heap "java/lang/String" "COMPACT_STRINGS" "Z" (.int zc)) (hzc : ¬ zc = 0) (fm : Value) (hfm : fm.isRef = true) (SF1 : Sta Z Z.heap "jdk/internal/util/Preconditions" "SIOOBE_FORMATTER" "Ljava/util/function/BiFunction;" fm) (SA : Sta Z Z.heap "java/lang/StringUTF16" "$assertionsDisabled" "Z" (.int 1)) (SH : Sta Z Z.heap "java/lang/StringUTF16" "HI_BYTE_SHIFT" "I" (.int 0)) (SL : Sta Z Z.heap "java/lang/StringUTF16" "LO_BYTE_SHIFT" "I" (.int 8)) (len a b c1 d slen : Int32) (h0 : Heap) (O : Ext Z.heap h0) :
    Ocon l Z consts_1 Jvm.Pilot.@@N@@.x code maxLocals ret tables_1 room_1 #[(.int len), (.int a), (.int b), (.int c1), (.int d), (.int slen)] h0 [] [] (fun v h _ => v = some (.int 1)) := by
  refine own_con (a0 := a0) hEL (plainFor_of_name pn_com_example_unnest_unnest_value_JsonStringAsciiPinLaw) ?_
  intro p e s m below meth c T0 hs W00
  have W00 : Owk p l e room_1 s m #[(.int len), (.int a), (.int b), (.int c1), (.int d), (.int slen)] below meth c Z a0 consts_1 [] "com/example/unnest/unnest/value/JsonStringAsciiPinLaw" "law" code maxLocals ret T0 h0 [] 0 0 := W00
  show Ogo p l e room_1 s m #[(.int len), (.int a), (.int b), (.int c1), (.int d), (.int slen)] below meth c Z a0 consts_1 [] "com/example/unnest/unnest/value/JsonStringAsciiPinLaw" "law" code maxLocals ret T0 _ _
  have rest : ∀ (n1 n2 : Nat) (T : State), n1 < 5 → n2 < 5 → Owk p l e room_1 s m #[(.int len), (.int a), (.int b), (.int c1), (.int d), (.int slen)] below meth c Z a0 consts_1 [] "com/example/unnest/unnest/value/JsonStringAsciiPinLaw" "law" code maxLocals ret T h0 [] 0 0 → Ogo p l e room_1 s m #[(.int len), (.int a), (.int b), (.int c1), (.int d), (.int slen)] below meth c Z a0 consts_1 [] "com/example/unnest/unnest/value/JsonStringAsciiPinLaw" "law" code maxLocals ret T (mkF m 17 #[.val (.int len), .val (.int a), .val (.int b), .val (.int c1), .val (.int d), .val (.int slen), .val (.int (Int32.ofNat n1)), .val (.int (Int32.ofNat n2)), .unset, .unset, .unset, .unset, .unset, .unset, .unset, .unset, .unset, .unset, .unset, .unset, .unset, .unset] []) (fun v h _ => v = some (.int 1)) := by
    intro n1 n2 T1 hn1 hn2 W01
    have s449 : ∀ (T : State) (h : Heap) (sx : Addr) (s8 s9 s11 s12 s13 s14 s17 s18 : Slot), Ext Z.heap h → Owk p l e room_1 s m #[(.int len), (.int a), (.int b), (.int c1), (.int d), (.int slen)] below meth c Z a0 consts_1 [] "com/example/unnest/unnest/value/JsonStringAsciiPinLaw" "law" code maxLocals ret T h [] 24 300 → Ogo p l e room_1 s m #[(.int len), (.int a), (.int b), (.int c1), (.int d), (.int slen)] below meth c Z a0 consts_1 [] "com/example/unnest/unnest/value/JsonStringAsciiPinLaw" "law" code maxLocals ret T (mkF m 449 #[.val (.int len), .val (.int a), .val (.int b), .val (.int c1), .val (.int d), .val (.int slen), .val (.int (Int32.ofNat n1)), .val (.int (Int32.ofNat n2)), s8, s9, .val (.ref sx), s11, s12, s13, s14, .val (.int (1 : Int32)), .val (.int (1 : Int32)), s17, s18, .val (.int (1 : Int32)), .unset, .unset] []) (fun v h _ => v = some (.int 1)) := by
      intro T h sx s8 s9 s11 s12 s13 s14 s17 s18 O1 W0
      refine g_new W0 at_449 (pc' := 452) rfl (hw _ (List.mem_of_getElem? (i := 108) rfl)) (hw _ (List.mem_of_getElem? (i := 43) rfl)) (hw _ (List.mem_of_getElem? (i := 40) rfl)) (by decide) (by decide) ?_
      intro T395 h396 E397 A398 D399 U400 W401
      obtain ⟨a402, g403⟩ : ∃ z, z = h.size := ⟨_, rfl⟩
      rw [← g403] at A398 D399 U400 W401 ⊢
      have na402 : s.heap.size ≤ a402 := by rw [g403]; exact W0.grown
      refine g_dup W401 at_452 (pc' := 453) rfl rfl ?_
      refine g_aload W401 at_453 (pc' := 455) rfl rfl rfl ?_
      refine g_special W401 at_455 (pc' := 458) rfl rfl (hw _ (List.mem_of_getElem? (i := 109) rfl)) (hw _ (List.mem_of_getElem? (i := 110) rfl)) (hw _ (List.mem_of_getElem? (i := 40) rfl)) (hw _ (List.mem_of_getElem? (i := 111) rfl)) (by decide) (con_ji1 l Z a0 hw hEL a402 sx _ _ h396 A398 (D399 (Or.inr (hw _ (List.mem_of_getElem? (i := 59) rfl))) (ty := .array .byte) (by decide)) (D399 (Or.inl (hw _ (List.mem_of_getElem? (i := 61) rfl))) (ty := .object "java/lang/String") (by decide))) pd__Ljava_lang_String__V (argsL := [(.ref sx)]) (st := [(.ref a402)]) rfl rfl rfl rfl (by decide) (w := 1) (Nat.le_of_eq rfl) (by decide) (by decide) (by decide) (by simp) (fun q hq => Or.inr (by rcases List.mem_cons.mp hq with rfl | hq; exact na402; cases List.mem_singleton.mp hq; exact na402)) ?_
      intro v404 T405 h406 S409 q407 W410
      have W408 := W410.sf (SF' := [a402]) (fun _ hx => List.mem_append_right _ hx)
      obtain ⟨rfl, K411, E412, F413⟩ := q407
      have X414 := own_ext_keep E397 K411 (by intro y hy; rw [List.mem_singleton.mp hy, g403]; exact Nat.le_refl _)
      refine g_virtual W408 at_458 (pc' := 461) (C := "com/example/unnest/unnest/value/JsonString") rfl (hw _ (List.mem_of_getElem? (i := 62) rfl)) (hw _ (List.mem_of_getElem? (i := 63) rfl)) (hw _ (List.mem_of_getElem? (i := 65) rfl)) (hw _ (List.mem_of_getElem? (i := 65) rfl)) (hw _ (List.mem_of_getElem? (i := 64) rfl)) (hw _ (List.mem_of_getElem? (i := 40) rfl)) (hw _ (List.mem_of_getElem? (i := 66) rfl)) (by decide) E412 (con_ascn l Z a0 hw hEL a402 h406 F413) pd____B (argsL := []) (st := []) rfl rfl rfl rfl (by decide) (w := 0) (Nat.le_of_eq rfl) (by decide) (by decide) (by decide) (by simp) (fun q hq => nomatch hq) ?_
      intro v415 T416 h417 S420 q418 W421
      have W419 := W421.sf (SF' := [a402]) (fun _ hx => List.mem_append_right _ hx)
      obtain ⟨rfl, rfl⟩ := q418
      refine g_astore W419 at_461 (pc' := 463) rfl (ls' := #[.val (.int len), .val (.int a), .val (.int b), .val (.int c1), .val (.int d), .val (.int slen), .val (.int (Int32.ofNat n1)), .val (.int (Int32.ofNat n2)), s8, s9, .val (.ref sx), s11, s12, s13, s14, .val (.int (1 : Int32)), .val (.int (1 : Int32)), s17, s18, .val (.int (1 : Int32)), .val .null, .unset]) rfl rfl ?_
      refine g_aload W419 at_463 (pc' := 465) rfl rfl rfl ?_
      refine g_nnN W419 at_465 (pc' := 468) rfl ?_
      refine g_iconst W419 at_468 (pc' := 469) rfl (v := 1) rfl ?_
      refine g_goto W419 at_469 (pc' := 473) (by decide) (by decide) ?_
      refine g_istore W419 at_473 (pc' := 475) rfl (ls' := #[.val (.int len), .val (.int a), .val (.int b), .val (.int c1), .val (.int d), .val (.int slen), .val (.int (Int32.ofNat n1)), .val (.int (Int32.ofNat n2)), s8, s9, .val (.ref sx), s11, s12, s13, s14, .val (.int (1 : Int32)), .val (.int (1 : Int32)), s17, s18, .val (.int (1 : Int32)), .val .null, .val (.int (1 : Int32))]) rfl ?_
      refine g_iload W419 at_475 (pc' := 477) rfl rfl ?_
      refine g_ifN W419 at_477 (pc' := 480) (feq (by decide : ¬ ((1 : Int32) = (0 : Int32)))).1 rfl ?_
      refine g_iload W419 at_480 (pc' := 482) rfl rfl ?_
      refine g_ifN W419 at_482 (pc' := 485) (feq (by decide : ¬ ((1 : Int32) = (0 : Int32)))).1 rfl ?_
      refine g_iload W419 at_485 (pc' := 487) rfl rfl ?_
      refine g_ifN W419 at_487 (pc' := 490) (feq (by decide : ¬ ((1 : Int32) = (0 : Int32)))).1 rfl ?_
      refine g_iload W419 at_490 (pc' := 492) rfl rfl ?_
      refine g_ifN W419 at_492 (pc' := 495) (feq (by decide : ¬ ((1 : Int32) = (0 : Int32)))).1 rfl ?_
      refine g_iconst W419 at_495 (pc' := 496) rfl (v := 1) rfl ?_
      refine g_goto W419 at_496 (pc' := 500) (by decide) (by decide) ?_
      exact g_iret W419 at_500 rfl (Or.inr (Or.inl rfl)) rfl rfl
    have s346 : ∀ (T : State) (h : Heap) (sx : Addr) (v12 : Int32) (s8 s9 s11 s13 s14 : Slot), Ext Z.heap h → OStr Z h sx (own_cs n2 a b c1 d) → ((v12 = 1 ∧ own_c4 n2 a b c1 d) ∨ (v12 = 0 ∧ ¬ own_c4 n2 a b c1 d)) → Owk p l e room_1 s m #[(.int len), (.int a), (.int b), (.int c1), (.int d), (.int slen)] below meth c Z a0 consts_1 [] "com/example/unnest/unnest/value/JsonStringAsciiPinLaw" "law" code maxLocals ret T h [] 20 260 → Ogo p l e room_1 s m #[(.int len), (.int a), (.int b), (.int c1), (.int d), (.int slen)] below meth c Z a0 consts_1 [] "com/example/unnest/unnest/value/JsonStringAsciiPinLaw" "law" code maxLocals ret T (mkF m 346 #[.val (.int len), .val (.int a), .val (.int b), .val (.int c1), .val (.int d), .val (.int slen), .val (.int (Int32.ofNat n1)), .val (.int (Int32.ofNat n2)), s8, s9, .val (.ref sx), s11, .val (.int v12), s13, s14, .val (.int (1 : Int32)), .val (.int (1 : Int32)), .unset, .unset, .unset, .unset, .unset] []) (fun v h _ => v = some (.int 1)) := by
      intro T h sx v12 s8 s9 s11 s13 s14 O1 S hv W0
      refine g_aload W0 at_346 (pc' := 348) rfl rfl rfl ?_
      refine g_static W0 at_348 (pc' := 351) rfl (hw _ (List.mem_of_getElem? (i := 70) rfl)) (hw _ (List.mem_of_getElem? (i := 71) rfl)) (hw _ (List.mem_of_getElem? (i := 40) rfl)) (hw _ (List.mem_of_getElem? (i := 72) rfl)) (by decide) (con_of l Z a0 hw hEL sx (own_cs n2 a b c1 d) zc SC hzc fm hfm SF1 h O1 SA SH SL S (by rw [own_cslen hn2]; omega)) pd__Ljava_lang_String__Lcom_example_unnest_unnest_value_JsonString_ (argsL := [(.ref sx)]) (st := []) rfl rfl rfl rfl (by decide) (w := 0) (Nat.le_of_eq rfl) (by decide) (by decide) (by decide) (by simp) (fun q hq => nomatch hq) ?_
      intro v422 T423 h424 S427 q425 W428
      have W426 := W428.sf (SF' := []) (fun _ hx => List.mem_append_right _ hx)
      obtain ⟨ja, rfl, X, jE, hj⟩ := q425
      have O2 := own_ext_tr O1 X
      rw [own_cslen hn2] at hj
      have iC := own_C hn2 a b c1 d
      refine g_astore W426 at_351 (pc' := 353) rfl (ls' := #[.val (.int len), .val (.int a), .val (.int b), .val (.int c1), .val (.int d), .val (.int slen), .val (.int (Int32.ofNat n1)), .val (.int (Int32.ofNat n2)), s8, s9, .val (.ref sx), s11, .val (.int v12), s13, s14, .val (.int (1 : Int32)), .val (.int (1 : Int32)), .val (.ref ja), .unset, .unset, .unset, .unset]) rfl rfl ?_
      refine g_aload W426 at_353 (pc' := 355) rfl rfl rfl ?_
      rcases hj with ⟨hj1, jt, jk, jF, jA⟩ | ⟨⟨cc, hcc, hc2⟩, jF⟩
      · skip
        have jA' : Arv Z h424 jt jk .byte (Int32.ofNat ((own_cs n2 a b c1 d).map fun x => x.toInt8.toInt32).length) (((own_cs n2 a b c1 d).map fun x => x.toInt8.toInt32).map Value.int) (.int 0) := by rw [List.length_map, own_cslen hn2, List.map_map]; exact jA
        refine g_virtual W426 at_355 (pc' := 358) (C := "com/example/unnest/unnest/value/JsonString") rfl (hw _ (List.mem_of_getElem? (i := 62) rfl)) (hw _ (List.mem_of_getElem? (i := 63) rfl)) (hw _ (List.mem_of_getElem? (i := 65) rfl)) (hw _ (List.mem_of_getElem? (i := 65) rfl)) (hw _ (List.mem_of_getElem? (i := 64) rfl)) (hw _ (List.mem_of_getElem? (i := 40) rfl)) (hw _ (List.mem_of_getElem? (i := 66) rfl)) (by decide) jE (con_asc l Z a0 hw hEL ja jt jk ((own_cs n2 a b c1 d).map fun x => x.toInt8.toInt32) h424 (by rw [List.length_map, own_cslen hn2]; omega) jF jA') pd____B (argsL := []) (st := []) rfl rfl rfl rfl (by decide) (w := 0) (Nat.le_of_eq rfl) (by decide) (by decide) (by decide) (by simp) (fun q hq => nomatch hq) ?_
        intro v429 T430 h431 S434 q432 W435
        have W433 := W435.sf (SF' := []) (fun _ hx => List.mem_append_right _ hx)
        obtain ⟨rfl, ⟨rfl, hall⟩ | ⟨rfl, hall⟩⟩ := q432
        · skip
          obtain rfl : v12 = 1 := by rcases hv with ⟨q, -⟩ | ⟨-, q⟩; exact q; exact absurd (iC.mpr ⟨hj1, hall⟩) q
          refine g_astore W433 at_358 (pc' := 360) rfl (ls' := #[.val (.int len), .val (.int a), .val (.int b), .val (.int c1), .val (.int d), .val (.int slen), .val (.int (Int32.ofNat n1)), .val (.int (Int32.ofNat n2)), s8, s9, .val (.ref sx), s11, .val (.int (1 : Int32)), s13, s14, .val (.int (1 : Int32)), .val (.int (1 : Int32)), .val (.ref ja), .val (.ref jt), .unset, .unset, .unset]) rfl rfl ?_
          refine g_iload W433 at_360 (pc' := 362) rfl rfl ?_
          refine g_ifN W433 at_362 (pc' := 365) (feq (by decide : ¬ ((1 : Int32) = (0 : Int32)))).1 rfl ?_
          refine g_aload W433 at_365 (pc' := 367) rfl rfl rfl ?_
          refine g_nullN W433 at_367 (pc' := 370) rfl ?_
          refine g_aload W433 at_370 (pc' := 372) rfl rfl rfl ?_
          refine g_alen W433 at_372 (pc' := 373) rfl jA ?_
          refine g_iload W433 at_373 (pc' := 375) rfl rfl ?_
          refine g_icN W433 at_375 (pc' := 378) (teq rfl).2 rfl ?_
          refine g_aload W433 at_378 (pc' := 380) rfl rfl rfl ?_
          refine g_iload W433 at_380 (pc' := 382) rfl rfl ?_
          refine g_iconst W433 at_382 (pc' := 383) rfl (v := 0) rfl ?_
          refine g_iloadN W433 at_383 (pc' := 384) rfl rfl ?_
          refine g_static W433 at_384 (pc' := 387) rfl (hw _ (List.mem_of_getElem? (i := 105) rfl)) (hw _ (List.mem_of_getElem? (i := 106) rfl)) (hw _ (List.mem_of_getElem? (i := 33) rfl)) (hw _ (List.mem_of_getElem? (i := 107) rfl)) (by decide) (con_cmt l Z a0 hw hEL jt jk _ n2 0 a h424 (by omega) (by decide) jA (fun q => own_csget a b c1 d q (by decide))) pd___BIII_Z (argsL := [(.ref jt), (.int (Int32.ofNat n2)), (.int (0 : Int32)), (.int a)]) (st := []) rfl rfl rfl rfl (by decide) (w := 0) (Nat.le_of_eq rfl) (by decide) (by decide) (by decide) (by simp) (fun q hq => nomatch hq) ?_
          intro v436 T437 h438 S441 q439 W442
          have W440 := W442.sf (SF' := []) (fun _ hx => List.mem_append_right _ hx)
          obtain ⟨rfl, rfl⟩ := q439
          refine g_ifN W440 at_387 (pc' := 390) (feq (by decide : ¬ ((1 : Int32) = (0 : Int32)))).1 rfl ?_
          refine g_aload W440 at_390 (pc' := 392) rfl rfl rfl ?_
          refine g_iload W440 at_392 (pc' := 394) rfl rfl ?_
          refine g_iconst W440 at_394 (pc' := 395) rfl (v := 1) rfl ?_
          refine g_iloadN W440 at_395 (pc' := 396) rfl rfl ?_
          refine g_static W440 at_396 (pc' := 399) rfl (hw _ (List.mem_of_getElem? (i := 105) rfl)) (hw _ (List.mem_of_getElem? (i := 106) rfl)) (hw _ (List.mem_of_getElem? (i := 33) rfl)) (hw _ (List.mem_of_getElem? (i := 107) rfl)) (by decide) (con_cmt l Z a0 hw hEL jt jk _ n2 1 b h424 (by omega) (by decide) jA (fun q => own_csget a b c1 d q (by decide))) pd___BIII_Z (argsL := [(.ref jt), (.int (Int32.ofNat n2)), (.int (1 : Int32)), (.int b)]) (st := []) rfl rfl rfl rfl (by decide) (w := 0) (Nat.le_of_eq rfl) (by decide) (by decide) (by decide) (by simp) (fun q hq => nomatch hq) ?_
          intro v443 T444 h445 S448 q446 W449
          have W447 := W449.sf (SF' := []) (fun _ hx => List.mem_append_right _ hx)
          obtain ⟨rfl, rfl⟩ := q446
          refine g_ifN W447 at_399 (pc' := 402) (feq (by decide : ¬ ((1 : Int32) = (0 : Int32)))).1 rfl ?_
          refine g_aload W447 at_402 (pc' := 404) rfl rfl rfl ?_
          refine g_iload W447 at_404 (pc' := 406) rfl rfl ?_
          refine g_iconst W447 at_406 (pc' := 407) rfl (v := 2) rfl ?_
          refine g_iloadN W447 at_407 (pc' := 408) rfl rfl ?_
          refine g_static W447 at_408 (pc' := 411) rfl (hw _ (List.mem_of_getElem? (i := 105) rfl)) (hw _ (List.mem_of_getElem? (i := 106) rfl)) (hw _ (List.mem_of_getElem? (i := 33) rfl)) (hw _ (List.mem_of_getElem? (i := 107) rfl)) (by decide) (con_cmt l Z a0 hw hEL jt jk _ n2 2 c1 h424 (by omega) (by decide) jA (fun q => own_csget a b c1 d q (by decide))) pd___BIII_Z (argsL := [(.ref jt), (.int (Int32.ofNat n2)), (.int (2 : Int32)), (.int c1)]) (st := []) rfl rfl rfl rfl (by decide) (w := 0) (Nat.le_of_eq rfl) (by decide) (by decide) (by decide) (by simp) (fun q hq => nomatch hq) ?_
          intro v450 T451 h452 S455 q453 W456
          have W454 := W456.sf (SF' := []) (fun _ hx => List.mem_append_right _ hx)
          obtain ⟨rfl, rfl⟩ := q453
          refine g_ifN W454 at_411 (pc' := 414) (feq (by decide : ¬ ((1 : Int32) = (0 : Int32)))).1 rfl ?_
          refine g_aload W454 at_414 (pc' := 416) rfl rfl rfl ?_
          refine g_iload W454 at_416 (pc' := 418) rfl rfl ?_
          refine g_iconst W454 at_418 (pc' := 419) rfl (v := 3) rfl ?_
          refine g_iload W454 at_419 (pc' := 421) rfl rfl ?_
          refine g_static W454 at_421 (pc' := 424) rfl (hw _ (List.mem_of_getElem? (i := 105) rfl)) (hw _ (List.mem_of_getElem? (i := 106) rfl)) (hw _ (List.mem_of_getElem? (i := 33) rfl)) (hw _ (List.mem_of_getElem? (i := 107) rfl)) (by decide) (con_cmt l Z a0 hw hEL jt jk _ n2 3 d h424 (by omega) (by decide) jA (fun q => own_csget a b c1 d q (by decide))) pd___BIII_Z (argsL := [(.ref jt), (.int (Int32.ofNat n2)), (.int (3 : Int32)), (.int d)]) (st := []) rfl rfl rfl rfl (by decide) (w := 0) (Nat.le_of_eq rfl) (by decide) (by decide) (by decide) (by simp) (fun q hq => nomatch hq) ?_
          intro v457 T458 h459 S462 q460 W463
          have W461 := W463.sf (SF' := []) (fun _ hx => List.mem_append_right _ hx)
          obtain ⟨rfl, rfl⟩ := q460
          refine g_ifN W461 at_424 (pc' := 427) (feq (by decide : ¬ ((1 : Int32) = (0 : Int32)))).1 rfl ?_
          refine g_iconst W461 at_427 (pc' := 428) rfl (v := 1) rfl ?_
          refine g_goto W461 at_428 (pc' := 432) (by decide) (by decide) ?_
          refine g_istore W461 at_432 (pc' := 434) rfl (ls' := #[.val (.int len), .val (.int a), .val (.int b), .val (.int c1), .val (.int d), .val (.int slen), .val (.int (Int32.ofNat n1)), .val (.int (Int32.ofNat n2)), s8, s9, .val (.ref sx), s11, .val (.int (1 : Int32)), s13, s14, .val (.int (1 : Int32)), .val (.int (1 : Int32)), .val (.ref ja), .val (.ref jt), .val (.int (1 : Int32)), .unset, .unset]) rfl ?_
          refine g_goto W461 at_434 (pc' := 449) (by decide) (by decide) ?_
          exact s449 T458 h424 sx _ _ _ _ _ _ _ _ O2 ((W461.up (k' := 24) (j' := 300) (by decide) (by decide) (by decide) (by decide)).sf (SF' := []) (fun q hq => nomatch hq))
        · skip
          obtain rfl : v12 = 0 := by rcases hv with ⟨-, q⟩ | ⟨q, -⟩; exact absurd (iC.mp q).2 hall; exact q
          refine g_astore W433 at_358 (pc' := 360) rfl (ls' := #[.val (.int len), .val (.int a), .val (.int b), .val (.int c1), .val (.int d), .val (.int slen), .val (.int (Int32.ofNat n1)), .val (.int (Int32.ofNat n2)), s8, s9, .val (.ref sx), s11, .val (.int (0 : Int32)), s13, s14, .val (.int (1 : Int32)), .val (.int (1 : Int32)), .val (.ref ja), .val .null, .unset, .unset, .unset]) rfl rfl ?_
          refine g_iload W433 at_360 (pc' := 362) rfl rfl ?_
          refine g_ifY W433 at_362 (pc' := 437) (teq (by decide : (0 : Int32) = (0 : Int32))).1 (by decide) (by decide) ?_
          refine g_aload W433 at_437 (pc' := 439) rfl rfl rfl ?_
          refine g_nnN W433 at_439 (pc' := 442) rfl ?_
          refine g_iconst W433 at_442 (pc' := 443) rfl (v := 1) rfl ?_
          refine g_goto W433 at_443 (pc' := 447) (by decide) (by decide) ?_
          refine g_istore W433 at_447 (pc' := 449) rfl (ls' := #[.val (.int len), .val (.int a), .val (.int b), .val (.int c1), .val (.int d), .val (.int slen), .val (.int (Int32.ofNat n1)), .val (.int (Int32.ofNat n2)), s8, s9, .val (.ref sx), s11, .val (.int (0 : Int32)), s13, s14, .val (.int (1 : Int32)), .val (.int (1 : Int32)), .val (.ref ja), .val .null, .val (.int (1 : Int32)), .unset, .unset]) rfl ?_
          exact s449 T430 h424 sx _ _ _ _ _ _ _ _ O2 ((W433.up (k' := 24) (j' := 300) (by decide) (by decide) (by decide) (by decide)).sf (SF' := []) (fun q hq => nomatch hq))
      · skip
        refine g_virtual W426 at_355 (pc' := 358) (C := "com/example/unnest/unnest/value/JsonString") rfl (hw _ (List.mem_of_getElem? (i := 62) rfl)) (hw _ (List.mem_of_getElem? (i := 63) rfl)) (hw _ (List.mem_of_getElem? (i := 65) rfl)) (hw _ (List.mem_of_getElem? (i := 65) rfl)) (hw _ (List.mem_of_getElem? (i := 64) rfl)) (hw _ (List.mem_of_getElem? (i := 40) rfl)) (hw _ (List.mem_of_getElem? (i := 66) rfl)) (by decide) jE (con_ascn l Z a0 hw hEL ja h424 jF) pd____B (argsL := []) (st := []) rfl rfl rfl rfl (by decide) (w := 0) (Nat.le_of_eq rfl) (by decide) (by decide) (by decide) (by simp) (fun q hq => nomatch hq) ?_
        intro v464 T465 h466 S469 q467 W470
        have W468 := W470.sf (SF' := []) (fun _ hx => List.mem_append_right _ hx)
        obtain ⟨rfl, rfl⟩ := q467
        obtain rfl : v12 = 0 := by rcases hv with ⟨-, q⟩ | ⟨q, -⟩; exact absurd hc2 ((iC.mp q).1 cc hcc); exact q
        refine g_astore W468 at_358 (pc' := 360) rfl (ls' := #[.val (.int len), .val (.int a), .val (.int b), .val (.int c1), .val (.int d), .val (.int slen), .val (.int (Int32.ofNat n1)), .val (.int (Int32.ofNat n2)), s8, s9, .val (.ref sx), s11, .val (.int (0 : Int32)), s13, s14, .val (.int (1 : Int32)), .val (.int (1 : Int32)), .val (.ref ja), .val .null, .unset, .unset, .unset]) rfl rfl ?_
        refine g_iload W468 at_360 (pc' := 362) rfl rfl ?_
        refine g_ifY W468 at_362 (pc' := 437) (teq (by decide : (0 : Int32) = (0 : Int32))).1 (by decide) (by decide) ?_
        refine g_aload W468 at_437 (pc' := 439) rfl rfl rfl ?_
        refine g_nnN W468 at_439 (pc' := 442) rfl ?_
        refine g_iconst W468 at_442 (pc' := 443) rfl (v := 1) rfl ?_
        refine g_goto W468 at_443 (pc' := 447) (by decide) (by decide) ?_
        refine g_istore W468 at_447 (pc' := 449) rfl (ls' := #[.val (.int len), .val (.int a), .val (.int b), .val (.int c1), .val (.int d), .val (.int slen), .val (.int (Int32.ofNat n1)), .val (.int (Int32.ofNat n2)), s8, s9, .val (.ref sx), s11, .val (.int (0 : Int32)), s13, s14, .val (.int (1 : Int32)), .val (.int (1 : Int32)), .val (.ref ja), .val .null, .val (.int (1 : Int32)), .unset, .unset]) rfl ?_
        exact s449 T465 h424 sx _ _ _ _ _ _ _ _ O2 ((W468.up (k' := 24) (j' := 300) (by decide) (by decide) (by decide) (by decide)).sf (SF' := []) (fun q hq => nomatch hq))
    have s290 : ∀ (T : State) (h : Heap) (sx ba : Addr) (bk : ClassId) (v12 : Int32) (s9 s11 s13 s14 : Slot), Ext Z.heap h → OStr Z h sx (own_cs n2 a b c1 d) → ((v12 = 1 ∧ own_c4 n2 a b c1 d) ∨ (v12 = 0 ∧ ¬ own_c4 n2 a b c1 d)) → Arv Z h ba bk .byte (Int32.ofNat n1) ((own_by n1 a b c1 d).map Value.int) (.int 0) → Owk p l e room_1 s m #[(.int len), (.int a), (.int b), (.int c1), (.int d), (.int slen)] below meth c Z a0 consts_1 [] "com/example/unnest/unnest/value/JsonStringAsciiPinLaw" "law" code maxLocals ret T h [] 18 200 → Ogo p l e room_1 s m #[(.int len), (.int a), (.int b), (.int c1), (.int d), (.int slen)] below meth c Z a0 consts_1 [] "com/example/unnest/unnest/value/JsonStringAsciiPinLaw" "law" code maxLocals ret T (mkF m 290 #[.val (.int len), .val (.int a), .val (.int b), .val (.int c1), .val (.int d), .val (.int slen), .val (.int (Int32.ofNat n1)), .val (.int (Int32.ofNat n2)), .val (.ref ba), s9, .val (.ref sx), s11, .val (.int v12), s13, s14, .val (.int (1 : Int32)), .unset, .unset, .unset, .unset, .unset, .unset] []) (fun v h _ => v = some (.int 1)) := by
      intro T h sx ba bk v12 s9 s11 s13 s14 O1 S hv A W0
      refine g_aload W0 at_290 (pc' := 292) rfl rfl rfl ?_
      refine g_iload W0 at_292 (pc' := 294) rfl rfl ?_
      refine g_iconst W0 at_294 (pc' := 295) rfl (v := 0) rfl ?_
      refine g_iloadN W0 at_295 (pc' := 296) rfl rfl ?_
      refine g_static W0 at_296 (pc' := 299) rfl (hw _ (List.mem_of_getElem? (i := 67) rfl)) (hw _ (List.mem_of_getElem? (i := 68) rfl)) (hw _ (List.mem_of_getElem? (i := 33) rfl)) (hw _ (List.mem_of_getElem? (i := 69) rfl)) (by decide) (con_smb l Z a0 hw hEL ba bk _ n1 0 a h (by omega) (by decide) A (fun q => own_byget a b c1 d q (by decide))) pd___BIII_Z (argsL := [(.ref ba), (.int (Int32.ofNat n1)), (.int (0 : Int32)), (.int a)]) (st := []) rfl rfl rfl rfl (by decide) (w := 0) (Nat.le_of_eq rfl) (by decide) (by decide) (by decide) (by simp) (fun q hq => nomatch hq) ?_
      intro v471 T472 h473 S476 q474 W477
      have W475 := W477.sf (SF' := []) (fun _ hx => List.mem_append_right _ hx)
      obtain ⟨rfl, rfl⟩ := q474
      refine g_ifN W475 at_299 (pc' := 302) (feq (by decide : ¬ ((1 : Int32) = (0 : Int32)))).1 rfl ?_
      refine g_aload W475 at_302 (pc' := 304) rfl rfl rfl ?_
      refine g_iload W475 at_304 (pc' := 306) rfl rfl ?_
      refine g_iconst W475 at_306 (pc' := 307) rfl (v := 1) rfl ?_
      refine g_iloadN W475 at_307 (pc' := 308) rfl rfl ?_
      refine g_static W475 at_308 (pc' := 311) rfl (hw _ (List.mem_of_getElem? (i := 67) rfl)) (hw _ (List.mem_of_getElem? (i := 68) rfl)) (hw _ (List.mem_of_getElem? (i := 33) rfl)) (hw _ (List.mem_of_getElem? (i := 69) rfl)) (by decide) (con_smb l Z a0 hw hEL ba bk _ n1 1 b h (by omega) (by decide) A (fun q => own_byget a b c1 d q (by decide))) pd___BIII_Z (argsL := [(.ref ba), (.int (Int32.ofNat n1)), (.int (1 : Int32)), (.int b)]) (st := []) rfl rfl rfl rfl (by decide) (w := 0) (Nat.le_of_eq rfl) (by decide) (by decide) (by decide) (by simp) (fun q hq => nomatch hq) ?_
      intro v478 T479 h480 S483 q481 W484
      have W482 := W484.sf (SF' := []) (fun _ hx => List.mem_append_right _ hx)
      obtain ⟨rfl, rfl⟩ := q481
      refine g_ifN W482 at_311 (pc' := 314) (feq (by decide : ¬ ((1 : Int32) = (0 : Int32)))).1 rfl ?_
      refine g_aload W482 at_314 (pc' := 316) rfl rfl rfl ?_
      refine g_iload W482 at_316 (pc' := 318) rfl rfl ?_
      refine g_iconst W482 at_318 (pc' := 319) rfl (v := 2) rfl ?_
      refine g_iloadN W482 at_319 (pc' := 320) rfl rfl ?_
      refine g_static W482 at_320 (pc' := 323) rfl (hw _ (List.mem_of_getElem? (i := 67) rfl)) (hw _ (List.mem_of_getElem? (i := 68) rfl)) (hw _ (List.mem_of_getElem? (i := 33) rfl)) (hw _ (List.mem_of_getElem? (i := 69) rfl)) (by decide) (con_smb l Z a0 hw hEL ba bk _ n1 2 c1 h (by omega) (by decide) A (fun q => own_byget a b c1 d q (by decide))) pd___BIII_Z (argsL := [(.ref ba), (.int (Int32.ofNat n1)), (.int (2 : Int32)), (.int c1)]) (st := []) rfl rfl rfl rfl (by decide) (w := 0) (Nat.le_of_eq rfl) (by decide) (by decide) (by decide) (by simp) (fun q hq => nomatch hq) ?_
      intro v485 T486 h487 S490 q488 W491
      have W489 := W491.sf (SF' := []) (fun _ hx => List.mem_append_right _ hx)
      obtain ⟨rfl, rfl⟩ := q488
      refine g_ifN W489 at_323 (pc' := 326) (feq (by decide : ¬ ((1 : Int32) = (0 : Int32)))).1 rfl ?_
      refine g_aload W489 at_326 (pc' := 328) rfl rfl rfl ?_
      refine g_iload W489 at_328 (pc' := 330) rfl rfl ?_
      refine g_iconst W489 at_330 (pc' := 331) rfl (v := 3) rfl ?_
      refine g_iload W489 at_331 (pc' := 333) rfl rfl ?_
      refine g_static W489 at_333 (pc' := 336) rfl (hw _ (List.mem_of_getElem? (i := 67) rfl)) (hw _ (List.mem_of_getElem? (i := 68) rfl)) (hw _ (List.mem_of_getElem? (i := 33) rfl)) (hw _ (List.mem_of_getElem? (i := 69) rfl)) (by decide) (con_smb l Z a0 hw hEL ba bk _ n1 3 d h (by omega) (by decide) A (fun q => own_byget a b c1 d q (by decide))) pd___BIII_Z (argsL := [(.ref ba), (.int (Int32.ofNat n1)), (.int (3 : Int32)), (.int d)]) (st := []) rfl rfl rfl rfl (by decide) (w := 0) (Nat.le_of_eq rfl) (by decide) (by decide) (by decide) (by simp) (fun q hq => nomatch hq) ?_
      intro v492 T493 h494 S497 q495 W498
      have W496 := W498.sf (SF' := []) (fun _ hx => List.mem_append_right _ hx)
      obtain ⟨rfl, rfl⟩ := q495
      refine g_ifN W496 at_336 (pc' := 339) (feq (by decide : ¬ ((1 : Int32) = (0 : Int32)))).1 rfl ?_
      refine g_iconst W496 at_339 (pc' := 340) rfl (v := 1) rfl ?_
      refine g_goto W496 at_340 (pc' := 344) (by decide) (by decide) ?_
      refine g_istore W496 at_344 (pc' := 346) rfl (ls' := #[.val (.int len), .val (.int a), .val (.int b), .val (.int c1), .val (.int d), .val (.int slen), .val (.int (Int32.ofNat n1)), .val (.int (Int32.ofNat n2)), .val (.ref ba), s9, .val (.ref sx), s11, .val (.int v12), s13, s14, .val (.int (1 : Int32)), .val (.int (1 : Int32)), .unset, .unset, .unset, .unset, .unset]) rfl ?_
      exact s346 T493 h sx v12 _ _ _ _ _ O1 S hv ((W496.up (k' := 20) (j' := 260) (by decide) (by decide) (by decide) (by decide)).sf (SF' := []) (fun q hq => nomatch hq))
    have s244 : ∀ (T : State) (h : Heap) (sx ba : Addr) (bk : ClassId) (v11 v12 : Int32) (s9 : Slot), Ext Z.heap h → OStr Z h sx (own_cs n2 a b c1 d) → ((v12 = 1 ∧ own_c4 n2 a b c1 d) ∨ (v12 = 0 ∧ ¬ own_c4 n2 a b c1 d)) → Arv Z h ba bk .byte (Int32.ofNat n1) ((own_by n1 a b c1 d).map Value.int) (.int 0) → ((v11 = 1 ∧ own_b4 n1 a b c1 d) ∨ (v11 = 0 ∧ ¬ own_b4 n1 a b c1 d)) → Owk p l e room_1 s m #[(.int len), (.int a), (.int b), (.int c1), (.int d), (.int slen)] below meth c Z a0 consts_1 [] "com/example/unnest/unnest/value/JsonStringAsciiPinLaw" "law" code maxLocals ret T h [] 12 120 → Ogo p l e room_1 s m #[(.int len), (.int a), (.int b), (.int c1), (.int d), (.int slen)] below meth c Z a0 consts_1 [] "com/example/unnest/unnest/value/JsonStringAsciiPinLaw" "law" code maxLocals ret T (mkF m 244 #[.val (.int len), .val (.int a), .val (.int b), .val (.int c1), .val (.int d), .val (.int slen), .val (.int (Int32.ofNat n1)), .val (.int (Int32.ofNat n2)), .val (.ref ba), s9, .val (.ref sx), .val (.int v11), .val (.int v12), .unset, .unset, .unset, .unset, .unset, .unset, .unset, .unset, .unset] []) (fun v h _ => v = some (.int 1)) := by
      intro T h sx ba bk v11 v12 s9 O1 S hv A hw1 W0
      refine g_aload W0 at_244 (pc' := 246) rfl rfl rfl ?_
      refine g_static W0 at_246 (pc' := 249) rfl (hw _ (List.mem_of_getElem? (i := 38) rfl)) (hw _ (List.mem_of_getElem? (i := 39) rfl)) (hw _ (List.mem_of_getElem? (i := 40) rfl)) (hw _ (List.mem_of_getElem? (i := 41) rfl)) (by decide) (con_ofl l Z a0 hw hEL ba h) pd___B_Lcom_example_unnest_unnest_value_JsonString_ (argsL := [(.ref ba)]) (st := []) rfl rfl rfl rfl (by decide) (w := 0) (Nat.le_of_eq rfl) (by decide) (by decide) (by decide) (by simp) (fun q hq => nomatch hq) ?_
      intro v499 T500 h501 S504 q502 W505
      have W503 := W505.sf (SF' := []) (fun _ hx => List.mem_append_right _ hx)
      obtain ⟨ja, rfl, X, jE, jF⟩ := q502
      have O2 := own_ext_tr O1 X
      have iB := own_B hn1 a b c1 d
      refine g_astore W503 at_249 (pc' := 251) rfl (ls' := #[.val (.int len), .val (.int a), .val (.int b), .val (.int c1), .val (.int d), .val (.int slen), .val (.int (Int32.ofNat n1)), .val (.int (Int32.ofNat n2)), .val (.ref ba), s9, .val (.ref sx), .val (.int v11), .val (.int v12), .val (.ref ja), .unset, .unset, .unset, .unset, .unset, .unset, .unset, .unset]) rfl rfl ?_
      refine g_aload W503 at_251 (pc' := 253) rfl rfl rfl ?_
      have A' : Arv Z h501 ba bk .byte (Int32.ofNat (own_by n1 a b c1 d).length) ((own_by n1 a b c1 d).map Value.int) (.int 0) := by rw [own_bylen hn1]; exact A.ext X
      refine g_virtual W503 at_253 (pc' := 256) (C := "com/example/unnest/unnest/value/JsonString") rfl (hw _ (List.mem_of_getElem? (i := 62) rfl)) (hw _ (List.mem_of_getElem? (i := 63) rfl)) (hw _ (List.mem_of_getElem? (i := 65) rfl)) (hw _ (List.mem_of_getElem? (i := 65) rfl)) (hw _ (List.mem_of_getElem? (i := 64) rfl)) (hw _ (List.mem_of_getElem? (i := 40) rfl)) (hw _ (List.mem_of_getElem? (i := 66) rfl)) (by decide) jE (con_asc l Z a0 hw hEL ja ba bk (own_by n1 a b c1 d) h501 (by rw [own_bylen hn1]; omega) jF A') pd____B (argsL := []) (st := []) rfl rfl rfl rfl (by decide) (w := 0) (Nat.le_of_eq rfl) (by decide) (by decide) (by decide) (by simp) (fun q hq => nomatch hq) ?_
      intro v506 T507 h508 S511 q509 W512
      have W510 := W512.sf (SF' := []) (fun _ hx => List.mem_append_right _ hx)
      obtain ⟨rfl, ⟨rfl, hall⟩ | ⟨rfl, hall⟩⟩ := q509
      · skip
        obtain rfl : v11 = 1 := by rcases hw1 with ⟨q, -⟩ | ⟨-, q⟩; exact q; exact absurd (iB.mpr hall) q
        refine g_astore W510 at_256 (pc' := 258) rfl (ls' := #[.val (.int len), .val (.int a), .val (.int b), .val (.int c1), .val (.int d), .val (.int slen), .val (.int (Int32.ofNat n1)), .val (.int (Int32.ofNat n2)), .val (.ref ba), s9, .val (.ref sx), .val (.int (1 : Int32)), .val (.int v12), .val (.ref ja), .val (.ref ba), .unset, .unset, .unset, .unset, .unset, .unset, .unset]) rfl rfl ?_
        refine g_iload W510 at_258 (pc' := 260) rfl rfl ?_
        refine g_ifN W510 at_260 (pc' := 263) (feq (by decide : ¬ ((1 : Int32) = (0 : Int32)))).1 rfl ?_
        refine g_aload W510 at_263 (pc' := 265) rfl rfl rfl ?_
        refine g_aload W510 at_265 (pc' := 267) rfl rfl rfl ?_
        refine g_acN W510 at_267 (pc' := 270) rfl rfl (by simp [XT.acmp]) rfl ?_
        refine g_iconst W510 at_270 (pc' := 271) rfl (v := 1) rfl ?_
        refine g_goto W510 at_271 (pc' := 288) (by decide) (by decide) ?_
        refine g_istore W510 at_288 (pc' := 290) rfl (ls' := #[.val (.int len), .val (.int a), .val (.int b), .val (.int c1), .val (.int d), .val (.int slen), .val (.int (Int32.ofNat n1)), .val (.int (Int32.ofNat n2)), .val (.ref ba), s9, .val (.ref sx), .val (.int (1 : Int32)), .val (.int v12), .val (.ref ja), .val (.ref ba), .val (.int (1 : Int32)), .unset, .unset, .unset, .unset, .unset, .unset]) rfl ?_
        exact s290 T507 h501 sx ba bk v12 _ _ _ _ O2 (S.ext X) hv (A.ext X) ((W510.up (k' := 18) (j' := 200) (by decide) (by decide) (by decide) (by decide)).sf (SF' := []) (fun q hq => nomatch hq))
      · skip
        obtain rfl : v11 = 0 := by rcases hw1 with ⟨-, q⟩ | ⟨q, -⟩; exact absurd (iB.mp q) hall; exact q
        refine g_astore W510 at_256 (pc' := 258) rfl (ls' := #[.val (.int len), .val (.int a), .val (.int b), .val (.int c1), .val (.int d), .val (.int slen), .val (.int (Int32.ofNat n1)), .val (.int (Int32.ofNat n2)), .val (.ref ba), s9, .val (.ref sx), .val (.int (0 : Int32)), .val (.int v12), .val (.ref ja), .val .null, .unset, .unset, .unset, .unset, .unset, .unset, .unset]) rfl rfl ?_
        refine g_iload W510 at_258 (pc' := 260) rfl rfl ?_
        refine g_ifY W510 at_260 (pc' := 278) (teq (by decide : (0 : Int32) = (0 : Int32))).1 (by decide) (by decide) ?_
        refine g_aload W510 at_278 (pc' := 280) rfl rfl rfl ?_
        refine g_nnN W510 at_280 (pc' := 283) rfl ?_
        refine g_iconst W510 at_283 (pc' := 284) rfl (v := 1) rfl ?_
        refine g_goto W510 at_284 (pc' := 288) (by decide) (by decide) ?_
        refine g_istore W510 at_288 (pc' := 290) rfl (ls' := #[.val (.int len), .val (.int a), .val (.int b), .val (.int c1), .val (.int d), .val (.int slen), .val (.int (Int32.ofNat n1)), .val (.int (Int32.ofNat n2)), .val (.ref ba), s9, .val (.ref sx), .val (.int (0 : Int32)), .val (.int v12), .val (.ref ja), .val .null, .val (.int (1 : Int32)), .unset, .unset, .unset, .unset, .unset, .unset]) rfl ?_
        exact s290 T507 h501 sx ba bk v12 _ _ _ _ O2 (S.ext X) hv (A.ext X) ((W510.up (k' := 18) (j' := 200) (by decide) (by decide) (by decide) (by decide)).sf (SF' := []) (fun q hq => nomatch hq))
    have s196 : ∀ (T : State) (h : Heap) (sx ba : Addr) (bk : ClassId) (v11 : Int32) (s9 : Slot), Ext Z.heap h → OStr Z h sx (own_cs n2 a b c1 d) → Arv Z h ba bk .byte (Int32.ofNat n1) ((own_by n1 a b c1 d).map Value.int) (.int 0) → ((v11 = 1 ∧ own_b4 n1 a b c1 d) ∨ (v11 = 0 ∧ ¬ own_b4 n1 a b c1 d)) → Owk p l e room_1 s m #[(.int len), (.int a), (.int b), (.int c1), (.int d), (.int slen)] below meth c Z a0 consts_1 [] "com/example/unnest/unnest/value/JsonStringAsciiPinLaw" "law" code maxLocals ret T h [] 12 120 → Ogo p l e room_1 s m #[(.int len), (.int a), (.int b), (.int c1), (.int d), (.int slen)] below meth c Z a0 consts_1 [] "com/example/unnest/unnest/value/JsonStringAsciiPinLaw" "law" code maxLocals ret T (mkF m 196 #[.val (.int len), .val (.int a), .val (.int b), .val (.int c1), .val (.int d), .val (.int slen), .val (.int (Int32.ofNat n1)), .val (.int (Int32.ofNat n2)), .val (.ref ba), s9, .val (.ref sx), .val (.int v11), .unset, .unset, .unset, .unset, .unset, .unset, .unset, .unset, .unset, .unset] []) (fun v h _ => v = some (.int 1)) := by
      intro T h sx ba bk v11 s9 O1 S A hw1 W0
      refine g_iload W0 at_196 (pc' := 198) rfl rfl ?_
      refine g_iconst W0 at_198 (pc' := 199) rfl (v := 0) rfl ?_
      refine g_iloadN W0 at_199 (pc' := 200) rfl rfl ?_
      refine g_static W0 at_200 (pc' := 203) rfl (hw _ (List.mem_of_getElem? (i := 35) rfl)) (hw _ (List.mem_of_getElem? (i := 36) rfl)) (hw _ (List.mem_of_getElem? (i := 33) rfl)) (hw _ (List.mem_of_getElem? (i := 37) rfl)) (by decide) (con_cok l Z a0 hw hEL n2 0 a h (by omega) (by decide)) pd__III_Z (argsL := [(.int (Int32.ofNat n2)), (.int (0 : Int32)), (.int a)]) (st := []) rfl rfl rfl rfl (by decide) (w := 0) (Nat.le_of_eq rfl) (by decide) (by decide) (by decide) (by simp) (fun q hq => nomatch hq) ?_
      intro v513 T514 h515 S518 q516 W519
      have W517 := W519.sf (SF' := []) (fun _ hx => List.mem_append_right _ hx)
      obtain ⟨rfl, ⟨rfl, q520⟩ | ⟨rfl, q520⟩⟩ := q516
      · skip
        refine g_ifN W517 at_203 (pc' := 206) (feq (by decide : ¬ ((1 : Int32) = (0 : Int32)))).1 rfl ?_
        refine g_iload W517 at_206 (pc' := 208) rfl rfl ?_
        refine g_iconst W517 at_208 (pc' := 209) rfl (v := 1) rfl ?_
        refine g_iloadN W517 at_209 (pc' := 210) rfl rfl ?_
        refine g_static W517 at_210 (pc' := 213) rfl (hw _ (List.mem_of_getElem? (i := 35) rfl)) (hw _ (List.mem_of_getElem? (i := 36) rfl)) (hw _ (List.mem_of_getElem? (i := 33) rfl)) (hw _ (List.mem_of_getElem? (i := 37) rfl)) (by decide) (con_cok l Z a0 hw hEL n2 1 b h (by omega) (by decide)) pd__III_Z (argsL := [(.int (Int32.ofNat n2)), (.int (1 : Int32)), (.int b)]) (st := []) rfl rfl rfl rfl (by decide) (w := 0) (Nat.le_of_eq rfl) (by decide) (by decide) (by decide) (by simp) (fun q hq => nomatch hq) ?_
        intro v521 T522 h523 S526 q524 W527
        have W525 := W527.sf (SF' := []) (fun _ hx => List.mem_append_right _ hx)
        obtain ⟨rfl, ⟨rfl, q528⟩ | ⟨rfl, q528⟩⟩ := q524
        · skip
          refine g_ifN W525 at_213 (pc' := 216) (feq (by decide : ¬ ((1 : Int32) = (0 : Int32)))).1 rfl ?_
          refine g_iload W525 at_216 (pc' := 218) rfl rfl ?_
          refine g_iconst W525 at_218 (pc' := 219) rfl (v := 2) rfl ?_
          refine g_iloadN W525 at_219 (pc' := 220) rfl rfl ?_
          refine g_static W525 at_220 (pc' := 223) rfl (hw _ (List.mem_of_getElem? (i := 35) rfl)) (hw _ (List.mem_of_getElem? (i := 36) rfl)) (hw _ (List.mem_of_getElem? (i := 33) rfl)) (hw _ (List.mem_of_getElem? (i := 37) rfl)) (by decide) (con_cok l Z a0 hw hEL n2 2 c1 h (by omega) (by decide)) pd__III_Z (argsL := [(.int (Int32.ofNat n2)), (.int (2 : Int32)), (.int c1)]) (st := []) rfl rfl rfl rfl (by decide) (w := 0) (Nat.le_of_eq rfl) (by decide) (by decide) (by decide) (by simp) (fun q hq => nomatch hq) ?_
          intro v529 T530 h531 S534 q532 W535
          have W533 := W535.sf (SF' := []) (fun _ hx => List.mem_append_right _ hx)
          obtain ⟨rfl, ⟨rfl, q536⟩ | ⟨rfl, q536⟩⟩ := q532
          · skip
            refine g_ifN W533 at_223 (pc' := 226) (feq (by decide : ¬ ((1 : Int32) = (0 : Int32)))).1 rfl ?_
            refine g_iload W533 at_226 (pc' := 228) rfl rfl ?_
            refine g_iconst W533 at_228 (pc' := 229) rfl (v := 3) rfl ?_
            refine g_iload W533 at_229 (pc' := 231) rfl rfl ?_
            refine g_static W533 at_231 (pc' := 234) rfl (hw _ (List.mem_of_getElem? (i := 35) rfl)) (hw _ (List.mem_of_getElem? (i := 36) rfl)) (hw _ (List.mem_of_getElem? (i := 33) rfl)) (hw _ (List.mem_of_getElem? (i := 37) rfl)) (by decide) (con_cok l Z a0 hw hEL n2 3 d h (by omega) (by decide)) pd__III_Z (argsL := [(.int (Int32.ofNat n2)), (.int (3 : Int32)), (.int d)]) (st := []) rfl rfl rfl rfl (by decide) (w := 0) (Nat.le_of_eq rfl) (by decide) (by decide) (by decide) (by simp) (fun q hq => nomatch hq) ?_
            intro v537 T538 h539 S542 q540 W543
            have W541 := W543.sf (SF' := []) (fun _ hx => List.mem_append_right _ hx)
            obtain ⟨rfl, ⟨rfl, q544⟩ | ⟨rfl, q544⟩⟩ := q540
            · skip
              refine g_ifN W541 at_234 (pc' := 237) (feq (by decide : ¬ ((1 : Int32) = (0 : Int32)))).1 rfl ?_
              refine g_iconst W541 at_237 (pc' := 238) rfl (v := 1) rfl ?_
              refine g_goto W541 at_238 (pc' := 242) (by decide) (by decide) ?_
              refine g_istore W541 at_242 (pc' := 244) rfl (ls' := #[.val (.int len), .val (.int a), .val (.int b), .val (.int c1), .val (.int d), .val (.int slen), .val (.int (Int32.ofNat n1)), .val (.int (Int32.ofNat n2)), .val (.ref ba), s9, .val (.ref sx), .val (.int v11), .val (.int (1 : Int32)), .unset, .unset, .unset, .unset, .unset, .unset, .unset, .unset, .unset]) rfl ?_
              exact s244 T538 h sx ba bk v11 1 _ O1 S (Or.inl ⟨rfl, q520, q528, q536, q544⟩) A hw1 ((W541.up (k' := 12) (j' := 120) (by decide) (by decide) (by decide) (by decide)).sf (SF' := []) (fun q hq => nomatch hq))
            · skip
              refine g_ifY W541 at_234 (pc' := 241) (teq (by decide : (0 : Int32) = (0 : Int32))).1 (by decide) (by decide) ?_
              refine g_iconst W541 at_241 (pc' := 242) rfl (v := 0) rfl ?_
              refine g_istore W541 at_242 (pc' := 244) rfl (ls' := #[.val (.int len), .val (.int a), .val (.int b), .val (.int c1), .val (.int d), .val (.int slen), .val (.int (Int32.ofNat n1)), .val (.int (Int32.ofNat n2)), .val (.ref ba), s9, .val (.ref sx), .val (.int v11), .val (.int (0 : Int32)), .unset, .unset, .unset, .unset, .unset, .unset, .unset, .unset, .unset]) rfl ?_
              exact s244 T538 h sx ba bk v11 0 _ O1 S (Or.inr ⟨rfl, fun z => q544.2 (z.2.2.2 q544.1)⟩) A hw1 ((W541.up (k' := 12) (j' := 120) (by decide) (by decide) (by decide) (by decide)).sf (SF' := []) (fun q hq => nomatch hq))
          · skip
            refine g_ifY W533 at_223 (pc' := 241) (teq (by decide : (0 : Int32) = (0 : Int32))).1 (by decide) (by decide) ?_
            refine g_iconst W533 at_241 (pc' := 242) rfl (v := 0) rfl ?_
            refine g_istore W533 at_242 (pc' := 244) rfl (ls' := #[.val (.int len), .val (.int a), .val (.int b), .val (.int c1), .val (.int d), .val (.int slen), .val (.int (Int32.ofNat n1)), .val (.int (Int32.ofNat n2)), .val (.ref ba), s9, .val (.ref sx), .val (.int v11), .val (.int (0 : Int32)), .unset, .unset, .unset, .unset, .unset, .unset, .unset, .unset, .unset]) rfl ?_
            exact s244 T530 h sx ba bk v11 0 _ O1 S (Or.inr ⟨rfl, fun z => q536.2 (z.2.2.1 q536.1)⟩) A hw1 ((W533.up (k' := 12) (j' := 120) (by decide) (by decide) (by decide) (by decide)).sf (SF' := []) (fun q hq => nomatch hq))
        · skip
          refine g_ifY W525 at_213 (pc' := 241) (teq (by decide : (0 : Int32) = (0 : Int32))).1 (by decide) (by decide) ?_
          refine g_iconst W525 at_241 (pc' := 242) rfl (v := 0) rfl ?_
          refine g_istore W525 at_242 (pc' := 244) rfl (ls' := #[.val (.int len), .val (.int a), .val (.int b), .val (.int c1), .val (.int d), .val (.int slen), .val (.int (Int32.ofNat n1)), .val (.int (Int32.ofNat n2)), .val (.ref ba), s9, .val (.ref sx), .val (.int v11), .val (.int (0 : Int32)), .unset, .unset, .unset, .unset, .unset, .unset, .unset, .unset, .unset]) rfl ?_
          exact s244 T522 h sx ba bk v11 0 _ O1 S (Or.inr ⟨rfl, fun z => q528.2 (z.2.1 q528.1)⟩) A hw1 ((W525.up (k' := 12) (j' := 120) (by decide) (by decide) (by decide) (by decide)).sf (SF' := []) (fun q hq => nomatch hq))
      · skip
        refine g_ifY W517 at_203 (pc' := 241) (teq (by decide : (0 : Int32) = (0 : Int32))).1 (by decide) (by decide) ?_
        refine g_iconst W517 at_241 (pc' := 242) rfl (v := 0) rfl ?_
        refine g_istore W517 at_242 (pc' := 244) rfl (ls' := #[.val (.int len), .val (.int a), .val (.int b), .val (.int c1), .val (.int d), .val (.int slen), .val (.int (Int32.ofNat n1)), .val (.int (Int32.ofNat n2)), .val (.ref ba), s9, .val (.ref sx), .val (.int v11), .val (.int (0 : Int32)), .unset, .unset, .unset, .unset, .unset, .unset, .unset, .unset, .unset]) rfl ?_
        exact s244 T514 h sx ba bk v11 0 _ O1 S (Or.inr ⟨rfl, fun z => q520.2 (z.1 q520.1)⟩) A hw1 ((W517.up (k' := 12) (j' := 120) (by decide) (by decide) (by decide) (by decide)).sf (SF' := []) (fun q hq => nomatch hq))
    have s148 : ∀ (T : State) (h : Heap) (sx ba : Addr) (bk : ClassId) (s9 : Slot), Ext Z.heap h → OStr Z h sx (own_cs n2 a b c1 d) → Arv Z h ba bk .byte (Int32.ofNat n1) ((own_by n1 a b c1 d).map Value.int) (.int 0) → Owk p l e room_1 s m #[(.int len), (.int a), (.int b), (.int c1), (.int d), (.int slen)] below meth c Z a0 consts_1 [] "com/example/unnest/unnest/value/JsonStringAsciiPinLaw" "law" code maxLocals ret T h [] 12 120 → Ogo p l e room_1 s m #[(.int len), (.int a), (.int b), (.int c1), (.int d), (.int slen)] below meth c Z a0 consts_1 [] "com/example/unnest/unnest/value/JsonStringAsciiPinLaw" "law" code maxLocals ret T (mkF m 148 #[.val (.int len), .val (.int a), .val (.int b), .val (.int c1), .val (.int d), .val (.int slen), .val (.int (Int32.ofNat n1)), .val (.int (Int32.ofNat n2)), .val (.ref ba), s9, .val (.ref sx), .unset, .unset, .unset, .unset, .unset, .unset, .unset, .unset, .unset, .unset, .unset] []) (fun v h _ => v = some (.int 1)) := by
      intro T h sx ba bk s9 O1 S A W0
      refine g_iload W0 at_148 (pc' := 150) rfl rfl ?_
      refine g_iconst W0 at_150 (pc' := 151) rfl (v := 0) rfl ?_
      refine g_iloadN W0 at_151 (pc' := 152) rfl rfl ?_
      refine g_static W0 at_152 (pc' := 155) rfl (hw _ (List.mem_of_getElem? (i := 31) rfl)) (hw _ (List.mem_of_getElem? (i := 32) rfl)) (hw _ (List.mem_of_getElem? (i := 33) rfl)) (hw _ (List.mem_of_getElem? (i := 34) rfl)) (by decide) (con_bok l Z a0 hw hEL n1 0 a h (by omega) (by decide)) pd__III_Z (argsL := [(.int (Int32.ofNat n1)), (.int (0 : Int32)), (.int a)]) (st := []) rfl rfl rfl rfl (by decide) (w := 0) (Nat.le_of_eq rfl) (by decide) (by decide) (by decide) (by simp) (fun q hq => nomatch hq) ?_
      intro v545 T546 h547 S550 q548 W551
      have W549 := W551.sf (SF' := []) (fun _ hx => List.mem_append_right _ hx)
      obtain ⟨rfl, ⟨rfl, q552⟩ | ⟨rfl, q552⟩⟩ := q548
      · skip
        refine g_ifN W549 at_155 (pc' := 158) (feq (by decide : ¬ ((1 : Int32) = (0 : Int32)))).1 rfl ?_
        refine g_iload W549 at_158 (pc' := 160) rfl rfl ?_
        refine g_iconst W549 at_160 (pc' := 161) rfl (v := 1) rfl ?_
        refine g_iloadN W549 at_161 (pc' := 162) rfl rfl ?_
        refine g_static W549 at_162 (pc' := 165) rfl (hw _ (List.mem_of_getElem? (i := 31) rfl)) (hw _ (List.mem_of_getElem? (i := 32) rfl)) (hw _ (List.mem_of_getElem? (i := 33) rfl)) (hw _ (List.mem_of_getElem? (i := 34) rfl)) (by decide) (con_bok l Z a0 hw hEL n1 1 b h (by omega) (by decide)) pd__III_Z (argsL := [(.int (Int32.ofNat n1)), (.int (1 : Int32)), (.int b)]) (st := []) rfl rfl rfl rfl (by decide) (w := 0) (Nat.le_of_eq rfl) (by decide) (by decide) (by decide) (by simp) (fun q hq => nomatch hq) ?_
        intro v553 T554 h555 S558 q556 W559
        have W557 := W559.sf (SF' := []) (fun _ hx => List.mem_append_right _ hx)
        obtain ⟨rfl, ⟨rfl, q560⟩ | ⟨rfl, q560⟩⟩ := q556
        · skip
          refine g_ifN W557 at_165 (pc' := 168) (feq (by decide : ¬ ((1 : Int32) = (0 : Int32)))).1 rfl ?_
          refine g_iload W557 at_168 (pc' := 170) rfl rfl ?_
          refine g_iconst W557 at_170 (pc' := 171) rfl (v := 2) rfl ?_
          refine g_iloadN W557 at_171 (pc' := 172) rfl rfl ?_
          refine g_static W557 at_172 (pc' := 175) rfl (hw _ (List.mem_of_getElem? (i := 31) rfl)) (hw _ (List.mem_of_getElem? (i := 32) rfl)) (hw _ (List.mem_of_getElem? (i := 33) rfl)) (hw _ (List.mem_of_getElem? (i := 34) rfl)) (by decide) (con_bok l Z a0 hw hEL n1 2 c1 h (by omega) (by decide)) pd__III_Z (argsL := [(.int (Int32.ofNat n1)), (.int (2 : Int32)), (.int c1)]) (st := []) rfl rfl rfl rfl (by decide) (w := 0) (Nat.le_of_eq rfl) (by decide) (by decide) (by decide) (by simp) (fun q hq => nomatch hq) ?_
          intro v561 T562 h563 S566 q564 W567
          have W565 := W567.sf (SF' := []) (fun _ hx => List.mem_append_right _ hx)
          obtain ⟨rfl, ⟨rfl, q568⟩ | ⟨rfl, q568⟩⟩ := q564
          · skip
            refine g_ifN W565 at_175 (pc' := 178) (feq (by decide : ¬ ((1 : Int32) = (0 : Int32)))).1 rfl ?_
            refine g_iload W565 at_178 (pc' := 180) rfl rfl ?_
            refine g_iconst W565 at_180 (pc' := 181) rfl (v := 3) rfl ?_
            refine g_iload W565 at_181 (pc' := 183) rfl rfl ?_
            refine g_static W565 at_183 (pc' := 186) rfl (hw _ (List.mem_of_getElem? (i := 31) rfl)) (hw _ (List.mem_of_getElem? (i := 32) rfl)) (hw _ (List.mem_of_getElem? (i := 33) rfl)) (hw _ (List.mem_of_getElem? (i := 34) rfl)) (by decide) (con_bok l Z a0 hw hEL n1 3 d h (by omega) (by decide)) pd__III_Z (argsL := [(.int (Int32.ofNat n1)), (.int (3 : Int32)), (.int d)]) (st := []) rfl rfl rfl rfl (by decide) (w := 0) (Nat.le_of_eq rfl) (by decide) (by decide) (by decide) (by simp) (fun q hq => nomatch hq) ?_
            intro v569 T570 h571 S574 q572 W575
            have W573 := W575.sf (SF' := []) (fun _ hx => List.mem_append_right _ hx)
            obtain ⟨rfl, ⟨rfl, q576⟩ | ⟨rfl, q576⟩⟩ := q572
            · skip
              refine g_ifN W573 at_186 (pc' := 189) (feq (by decide : ¬ ((1 : Int32) = (0 : Int32)))).1 rfl ?_
              refine g_iconst W573 at_189 (pc' := 190) rfl (v := 1) rfl ?_
              refine g_goto W573 at_190 (pc' := 194) (by decide) (by decide) ?_
              refine g_istore W573 at_194 (pc' := 196) rfl (ls' := #[.val (.int len), .val (.int a), .val (.int b), .val (.int c1), .val (.int d), .val (.int slen), .val (.int (Int32.ofNat n1)), .val (.int (Int32.ofNat n2)), .val (.ref ba), s9, .val (.ref sx), .val (.int (1 : Int32)), .unset, .unset, .unset, .unset, .unset, .unset, .unset, .unset, .unset, .unset]) rfl ?_
              exact s196 T570 h sx ba bk 1 _ O1 S A (Or.inl ⟨rfl, q552, q560, q568, q576⟩) ((W573.up (k' := 12) (j' := 120) (by decide) (by decide) (by decide) (by decide)).sf (SF' := []) (fun q hq => nomatch hq))
            · skip
              refine g_ifY W573 at_186 (pc' := 193) (teq (by decide : (0 : Int32) = (0 : Int32))).1 (by decide) (by decide) ?_
              refine g_iconst W573 at_193 (pc' := 194) rfl (v := 0) rfl ?_
              refine g_istore W573 at_194 (pc' := 196) rfl (ls' := #[.val (.int len), .val (.int a), .val (.int b), .val (.int c1), .val (.int d), .val (.int slen), .val (.int (Int32.ofNat n1)), .val (.int (Int32.ofNat n2)), .val (.ref ba), s9, .val (.ref sx), .val (.int (0 : Int32)), .unset, .unset, .unset, .unset, .unset, .unset, .unset, .unset, .unset, .unset]) rfl ?_
              exact s196 T570 h sx ba bk 0 _ O1 S A (Or.inr ⟨rfl, fun z => q576.2 (z.2.2.2 q576.1)⟩) ((W573.up (k' := 12) (j' := 120) (by decide) (by decide) (by decide) (by decide)).sf (SF' := []) (fun q hq => nomatch hq))
          · skip
            refine g_ifY W565 at_175 (pc' := 193) (teq (by decide : (0 : Int32) = (0 : Int32))).1 (by decide) (by decide) ?_
            refine g_iconst W565 at_193 (pc' := 194) rfl (v := 0) rfl ?_
            refine g_istore W565 at_194 (pc' := 196) rfl (ls' := #[.val (.int len), .val (.int a), .val (.int b), .val (.int c1), .val (.int d), .val (.int slen), .val (.int (Int32.ofNat n1)), .val (.int (Int32.ofNat n2)), .val (.ref ba), s9, .val (.ref sx), .val (.int (0 : Int32)), .unset, .unset, .unset, .unset, .unset, .unset, .unset, .unset, .unset, .unset]) rfl ?_
            exact s196 T562 h sx ba bk 0 _ O1 S A (Or.inr ⟨rfl, fun z => q568.2 (z.2.2.1 q568.1)⟩) ((W565.up (k' := 12) (j' := 120) (by decide) (by decide) (by decide) (by decide)).sf (SF' := []) (fun q hq => nomatch hq))
        · skip
          refine g_ifY W557 at_165 (pc' := 193) (teq (by decide : (0 : Int32) = (0 : Int32))).1 (by decide) (by decide) ?_
          refine g_iconst W557 at_193 (pc' := 194) rfl (v := 0) rfl ?_
          refine g_istore W557 at_194 (pc' := 196) rfl (ls' := #[.val (.int len), .val (.int a), .val (.int b), .val (.int c1), .val (.int d), .val (.int slen), .val (.int (Int32.ofNat n1)), .val (.int (Int32.ofNat n2)), .val (.ref ba), s9, .val (.ref sx), .val (.int (0 : Int32)), .unset, .unset, .unset, .unset, .unset, .unset, .unset, .unset, .unset, .unset]) rfl ?_
          exact s196 T554 h sx ba bk 0 _ O1 S A (Or.inr ⟨rfl, fun z => q560.2 (z.2.1 q560.1)⟩) ((W557.up (k' := 12) (j' := 120) (by decide) (by decide) (by decide) (by decide)).sf (SF' := []) (fun q hq => nomatch hq))
      · skip
        refine g_ifY W549 at_155 (pc' := 193) (teq (by decide : (0 : Int32) = (0 : Int32))).1 (by decide) (by decide) ?_
        refine g_iconst W549 at_193 (pc' := 194) rfl (v := 0) rfl ?_
        refine g_istore W549 at_194 (pc' := 196) rfl (ls' := #[.val (.int len), .val (.int a), .val (.int b), .val (.int c1), .val (.int d), .val (.int slen), .val (.int (Int32.ofNat n1)), .val (.int (Int32.ofNat n2)), .val (.ref ba), s9, .val (.ref sx), .val (.int (0 : Int32)), .unset, .unset, .unset, .unset, .unset, .unset, .unset, .unset, .unset, .unset]) rfl ?_
        exact s196 T546 h sx ba bk 0 _ O1 S A (Or.inr ⟨rfl, fun z => q552.2 (z.1 q552.1)⟩) ((W549.up (k' := 12) (j' := 120) (by decide) (by decide) (by decide) (by decide)).sf (SF' := []) (fun q hq => nomatch hq))
    have s137 : ∀ (T : State) (h : Heap) (ba ca : Addr) (bk ck : ClassId), Ext Z.heap h → Arv Z h ba bk .byte (Int32.ofNat n1) ((own_by n1 a b c1 d).map Value.int) (.int 0) → Arv Z h ca ck .char (Int32.ofNat n2) ((own_cs n2 a b c1 d).map Value.int) (.int 0) → Owk p l e room_1 s m #[(.int len), (.int a), (.int b), (.int c1), (.int d), (.int slen)] below meth c Z a0 consts_1 [] "com/example/unnest/unnest/value/JsonStringAsciiPinLaw" "law" code maxLocals ret T h [] 3 30 → Ogo p l e room_1 s m #[(.int len), (.int a), (.int b), (.int c1), (.int d), (.int slen)] below meth c Z a0 consts_1 [] "com/example/unnest/unnest/value/JsonStringAsciiPinLaw" "law" code maxLocals ret T (mkF m 137 #[.val (.int len), .val (.int a), .val (.int b), .val (.int c1), .val (.int d), .val (.int slen), .val (.int (Int32.ofNat n1)), .val (.int (Int32.ofNat n2)), .val (.ref ba), .val (.ref ca), .unset, .unset, .unset, .unset, .unset, .unset, .unset, .unset, .unset, .unset, .unset, .unset] []) (fun v h _ => v = some (.int 1)) := by
      intro T h ba ca bk ck O1 A B1 W0
      refine g_new W0 at_137 (pc' := 140) rfl (hw _ (List.mem_of_getElem? (i := 3) rfl)) (hw _ (List.mem_of_getElem? (i := 4) rfl)) (hw _ (List.mem_of_getElem? (i := 5) rfl)) (by decide) (by decide) ?_
      intro T577 h578 E579 A580 D581 U582 W583
      obtain ⟨a584, g585⟩ : ∃ z, z = h.size := ⟨_, rfl⟩
      rw [← g585] at A580 D581 U582 W583 ⊢
      have nx : s.heap.size ≤ a584 := by rw [g585]; exact W0.grown
      have zx : Z.heap.size ≤ a584 := by rw [g585]; exact O1.1
      have O2 := own_ext_tr O1 E579
      refine g_dup W583 at_140 (pc' := 141) rfl rfl ?_
      refine g_aload W583 at_141 (pc' := 143) rfl rfl rfl ?_
      refine g_special W583 at_143 (pc' := 146) rfl rfl (hw _ (List.mem_of_getElem? (i := 6) rfl)) (hw _ (List.mem_of_getElem? (i := 7) rfl)) (hw _ (List.mem_of_getElem? (i := 5) rfl)) (hw _ (List.mem_of_getElem? (i := 8) rfl)) (by decide) (con_new1 l Z a0 hw hEL a584 ca ck (own_cs n2 a b c1 d) _ _ _ zc n2 h578 O2 SA SH SL zx (own_cslen hn2 _ _ _ _) (by omega) A580 (D581 (Or.inr (hw _ (List.mem_of_getElem? (i := 30) rfl))) (ty := .array .byte) (by decide)) (D581 (Or.inr (hw _ (List.mem_of_getElem? (i := 28) rfl))) (ty := .byte) (by decide)) (B1.ext E579) (own_csb _ _ _ _) SC hzc) pd___C_V (argsL := [(.ref ca)]) (st := [(.ref a584)]) rfl rfl rfl rfl (by decide) (w := 1) (Nat.le_of_eq rfl) (by decide) (by decide) (by decide) (by simp) (fun q hq => Or.inr (by rcases List.mem_cons.mp hq with rfl | hq; exact nx; cases List.mem_singleton.mp hq; exact nx)) ?_
      intro v586 T587 h588 S591 q589 W592
      have W590 := W592.sf (SF' := [a584]) (fun _ hx => List.mem_append_right _ hx)
      obtain ⟨rfl, qK, qS⟩ := q589
      have X3 := own_ext_keep E579 qK (by intro y hy; rw [List.mem_singleton.mp hy, g585]; exact Nat.le_refl _)
      refine g_astore W590 at_146 (pc' := 148) rfl (ls' := #[.val (.int len), .val (.int a), .val (.int b), .val (.int c1), .val (.int d), .val (.int slen), .val (.int (Int32.ofNat n1)), .val (.int (Int32.ofNat n2)), .val (.ref ba), .val (.ref ca), .val (.ref a584), .unset, .unset, .unset, .unset, .unset, .unset, .unset, .unset, .unset, .unset, .unset]) rfl rfl ?_
      exact s148 T587 h588 a584 ba bk _ (own_ext_tr O1 X3) qS (A.ext X3) ((W590.up (k' := 12) (j' := 120) (by decide) (by decide) (by decide) (by decide)).sf (SF' := []) (fun q hq => nomatch hq))
    have s71 : ∀ (T : State) (h : Heap) (ba : Addr) (bk : ClassId), Ext Z.heap h → Arv Z h ba bk .byte (Int32.ofNat n1) ((own_by n1 a b c1 d).map Value.int) (.int 0) → Owk p l e room_1 s m #[(.int len), (.int a), (.int b), (.int c1), (.int d), (.int slen)] below meth c Z a0 consts_1 [] "com/example/unnest/unnest/value/JsonStringAsciiPinLaw" "law" code maxLocals ret T h [] 1 4 → Ogo p l e room_1 s m #[(.int len), (.int a), (.int b), (.int c1), (.int d), (.int slen)] below meth c Z a0 consts_1 [] "com/example/unnest/unnest/value/JsonStringAsciiPinLaw" "law" code maxLocals ret T (mkF m 71 #[.val (.int len), .val (.int a), .val (.int b), .val (.int c1), .val (.int d), .val (.int slen), .val (.int (Int32.ofNat n1)), .val (.int (Int32.ofNat n2)), .val (.ref ba), .unset, .unset, .unset, .unset, .unset, .unset, .unset, .unset, .unset, .unset, .unset, .unset, .unset] []) (fun v h _ => v = some (.int 1)) := by
      intro T h ba bk O1 A W0
      rcases own_lt5 hn2 with rfl | rfl | rfl | rfl | rfl
      · show Ogo p l e room_1 s m #[(.int len), (.int a), (.int b), (.int c1), (.int d), (.int slen)] below meth c Z a0 consts_1 [] "com/example/unnest/unnest/value/JsonStringAsciiPinLaw" "law" code maxLocals ret T (mkF m 71 #[.val (.int len), .val (.int a), .val (.int b), .val (.int c1), .val (.int d), .val (.int slen), .val (.int (Int32.ofNat n1)), .val (.int (0 : Int32)), .val (.ref ba), .unset, .unset, .unset, .unset, .unset, .unset, .unset, .unset, .unset, .unset, .unset, .unset, .unset] []) (fun v h _ => v = some (.int 1))
        refine g_iload W0 at_71 (pc' := 73) rfl rfl ?_
        refine g_newP W0 at_73 (pc' := 75) (cap := 0) rfl (ty := .char) (dv := (.int 0)) rfl rfl (hw _ (List.mem_of_getElem? (i := 2) rfl)) (by decide) (by decide) (by decide) (by decide) (by decide) ?_
        intro T593 h594 cA595 E596 A597 W598
        obtain ⟨a599, g600⟩ : ∃ z, z = h.size := ⟨_, rfl⟩
        rw [← g600] at A597 W598 ⊢
        have nc : s.heap.size ≤ a599 := by rw [g600]; exact W0.grown
        refine g_astore W598 at_75 (pc' := 77) rfl (ls' := #[.val (.int len), .val (.int a), .val (.int b), .val (.int c1), .val (.int d), .val (.int slen), .val (.int (Int32.ofNat n1)), .val (.int (0 : Int32)), .val (.ref ba), .val (.ref a599), .unset, .unset, .unset, .unset, .unset, .unset, .unset, .unset, .unset, .unset, .unset, .unset]) rfl rfl ?_
        refine g_iload W598 at_77 (pc' := 79) rfl rfl ?_
        refine g_ifY W598 at_79 (pc' := 91) (flt (by decide : ¬ ((0 : Int32) < (0 : Int32)))).2.2.2 (by decide) (by decide) ?_
        refine g_iload W598 at_91 (pc' := 93) rfl rfl ?_
        refine g_iconst W598 at_93 (pc' := 94) rfl (v := 1) rfl ?_
        refine g_icY W598 at_94 (pc' := 106) (flt (by decide : ¬ ((1 : Int32) < (0 : Int32)))).2.2.2 (by decide) (by decide) ?_
        refine g_iload W598 at_106 (pc' := 108) rfl rfl ?_
        refine g_iconst W598 at_108 (pc' := 109) rfl (v := 2) rfl ?_
        refine g_icY W598 at_109 (pc' := 121) (flt (by decide : ¬ ((2 : Int32) < (0 : Int32)))).2.2.2 (by decide) (by decide) ?_
        refine g_iload W598 at_121 (pc' := 123) rfl rfl ?_
        refine g_iconst W598 at_123 (pc' := 124) rfl (v := 3) rfl ?_
        refine g_icY W598 at_124 (pc' := 137) (flt (by decide : ¬ ((3 : Int32) < (0 : Int32)))).2.2.2 (by decide) (by decide) ?_
        exact s137 T593 h594 ba a599 bk _ (own_ext_tr O1 E596) (A.ext E596) (own_pad0 0 A597) ((W598.up (k' := 3) (j' := 30) (by decide) (by decide) (by decide) (by decide)).sf (SF' := []) (fun q hq => nomatch hq))
      · show Ogo p l e room_1 s m #[(.int len), (.int a), (.int b), (.int c1), (.int d), (.int slen)] below meth c Z a0 consts_1 [] "com/example/unnest/unnest/value/JsonStringAsciiPinLaw" "law" code maxLocals ret T (mkF m 71 #[.val (.int len), .val (.int a), .val (.int b), .val (.int c1), .val (.int d), .val (.int slen), .val (.int (Int32.ofNat n1)), .val (.int (1 : Int32)), .val (.ref ba), .unset, .unset, .unset, .unset, .unset, .unset, .unset, .unset, .unset, .unset, .unset, .unset, .unset] []) (fun v h _ => v = some (.int 1))
        refine g_iload W0 at_71 (pc' := 73) rfl rfl ?_
        refine g_newP W0 at_73 (pc' := 75) (cap := 1) rfl (ty := .char) (dv := (.int 0)) rfl rfl (hw _ (List.mem_of_getElem? (i := 2) rfl)) (by decide) (by decide) (by decide) (by decide) (by decide) ?_
        intro T601 h602 cA603 E604 A605 W606
        obtain ⟨a607, g608⟩ : ∃ z, z = h.size := ⟨_, rfl⟩
        rw [← g608] at A605 W606 ⊢
        have nc : s.heap.size ≤ a607 := by rw [g608]; exact W0.grown
        refine g_astore W606 at_75 (pc' := 77) rfl (ls' := #[.val (.int len), .val (.int a), .val (.int b), .val (.int c1), .val (.int d), .val (.int slen), .val (.int (Int32.ofNat n1)), .val (.int (1 : Int32)), .val (.ref ba), .val (.ref a607), .unset, .unset, .unset, .unset, .unset, .unset, .unset, .unset, .unset, .unset, .unset, .unset]) rfl rfl ?_
        refine g_iload W606 at_77 (pc' := 79) rfl rfl ?_
        refine g_ifN W606 at_79 (pc' := 82) (tlt (by decide : (0 : Int32) < (1 : Int32))).2.2.2 rfl ?_
        refine g_aload W606 at_82 (pc' := 84) rfl rfl rfl ?_
        refine g_iconst W606 at_84 (pc' := 85) rfl (v := 0) rfl ?_
        refine g_iloadN W606 at_85 (pc' := 86) rfl rfl ?_
        refine g_bipush W606 at_86 (pc' := 88) rfl (v := 16) rfl ?_
        refine g_iushr W606 at_88 (pc' := 89) rfl ?_
        refine g_i2c W606 at_89 (pc' := 90) rfl ?_
        rw [own_u2c]
        refine g_castore W606 at_90 (pc' := 91) rfl (own_pad0 1 A605) (i := 0) rfl (by decide) (by first | decide | simp) (y := (XT.ushr a (16 : Int32))) (own_u2c _) (vs' := [(.int (XT.ushr a (16 : Int32)))]) rfl (by simp) (Or.inr nc) ?_
        intro T609 h610 w611 A612 W613
        have X614 : Ext h h610 := own_ext_wr E604 w611 (by rw [g608]; exact Nat.le_refl _)
        refine g_iload W613 at_91 (pc' := 93) rfl rfl ?_
        refine g_iconst W613 at_93 (pc' := 94) rfl (v := 1) rfl ?_
        refine g_icY W613 at_94 (pc' := 106) (flt (by decide : ¬ ((1 : Int32) < (1 : Int32)))).2.2.2 (by decide) (by decide) ?_
        refine g_iload W613 at_106 (pc' := 108) rfl rfl ?_
        refine g_iconst W613 at_108 (pc' := 109) rfl (v := 2) rfl ?_
        refine g_icY W613 at_109 (pc' := 121) (flt (by decide : ¬ ((2 : Int32) < (1 : Int32)))).2.2.2 (by decide) (by decide) ?_
        refine g_iload W613 at_121 (pc' := 123) rfl rfl ?_
        refine g_iconst W613 at_123 (pc' := 124) rfl (v := 3) rfl ?_
        refine g_icY W613 at_124 (pc' := 137) (flt (by decide : ¬ ((3 : Int32) < (1 : Int32)))).2.2.2 (by decide) (by decide) ?_
        exact s137 T609 h610 ba a607 bk _ (own_ext_tr O1 X614) (A.ext X614) A612 ((W613.up (k' := 3) (j' := 30) (by decide) (by decide) (by decide) (by decide)).sf (SF' := []) (fun q hq => nomatch hq))
      · show Ogo p l e room_1 s m #[(.int len), (.int a), (.int b), (.int c1), (.int d), (.int slen)] below meth c Z a0 consts_1 [] "com/example/unnest/unnest/value/JsonStringAsciiPinLaw" "law" code maxLocals ret T (mkF m 71 #[.val (.int len), .val (.int a), .val (.int b), .val (.int c1), .val (.int d), .val (.int slen), .val (.int (Int32.ofNat n1)), .val (.int (2 : Int32)), .val (.ref ba), .unset, .unset, .unset, .unset, .unset, .unset, .unset, .unset, .unset, .unset, .unset, .unset, .unset] []) (fun v h _ => v = some (.int 1))
        refine g_iload W0 at_71 (pc' := 73) rfl rfl ?_
        refine g_newP W0 at_73 (pc' := 75) (cap := 2) rfl (ty := .char) (dv := (.int 0)) rfl rfl (hw _ (List.mem_of_getElem? (i := 2) rfl)) (by decide) (by decide) (by decide) (by decide) (by decide) ?_
        intro T615 h616 cA617 E618 A619 W620
        obtain ⟨a621, g622⟩ : ∃ z, z = h.size := ⟨_, rfl⟩
        rw [← g622] at A619 W620 ⊢
        have nc : s.heap.size ≤ a621 := by rw [g622]; exact W0.grown
        refine g_astore W620 at_75 (pc' := 77) rfl (ls' := #[.val (.int len), .val (.int a), .val (.int b), .val (.int c1), .val (.int d), .val (.int slen), .val (.int (Int32.ofNat n1)), .val (.int (2 : Int32)), .val (.ref ba), .val (.ref a621), .unset, .unset, .unset, .unset, .unset, .unset, .unset, .unset, .unset, .unset, .unset, .unset]) rfl rfl ?_
        refine g_iload W620 at_77 (pc' := 79) rfl rfl ?_
        refine g_ifN W620 at_79 (pc' := 82) (tlt (by decide : (0 : Int32) < (2 : Int32))).2.2.2 rfl ?_
        refine g_aload W620 at_82 (pc' := 84) rfl rfl rfl ?_
        refine g_iconst W620 at_84 (pc' := 85) rfl (v := 0) rfl ?_
        refine g_iloadN W620 at_85 (pc' := 86) rfl rfl ?_
        refine g_bipush W620 at_86 (pc' := 88) rfl (v := 16) rfl ?_
        refine g_iushr W620 at_88 (pc' := 89) rfl ?_
        refine g_i2c W620 at_89 (pc' := 90) rfl ?_
        rw [own_u2c]
        refine g_castore W620 at_90 (pc' := 91) rfl (own_pad0 2 A619) (i := 0) rfl (by decide) (by first | decide | simp) (y := (XT.ushr a (16 : Int32))) (own_u2c _) (vs' := [(.int (XT.ushr a (16 : Int32))), (.int (0 : Int32))]) rfl (by simp) (Or.inr nc) ?_
        intro T623 h624 w625 A626 W627
        have X628 : Ext h h624 := own_ext_wr E618 w625 (by rw [g622]; exact Nat.le_refl _)
        refine g_iload W627 at_91 (pc' := 93) rfl rfl ?_
        refine g_iconst W627 at_93 (pc' := 94) rfl (v := 1) rfl ?_
        refine g_icN W627 at_94 (pc' := 97) (tlt (by decide : (1 : Int32) < (2 : Int32))).2.2.2 rfl ?_
        refine g_aload W627 at_97 (pc' := 99) rfl rfl rfl ?_
        refine g_iconst W627 at_99 (pc' := 100) rfl (v := 1) rfl ?_
        refine g_iloadN W627 at_100 (pc' := 101) rfl rfl ?_
        refine g_bipush W627 at_101 (pc' := 103) rfl (v := 16) rfl ?_
        refine g_iushr W627 at_103 (pc' := 104) rfl ?_
        refine g_i2c W627 at_104 (pc' := 105) rfl ?_
        rw [own_u2c]
        refine g_castore W627 at_105 (pc' := 106) rfl A626 (i := 1) rfl (by decide) (by first | decide | simp) (y := (XT.ushr b (16 : Int32))) (own_u2c _) (vs' := [(.int (XT.ushr a (16 : Int32))), (.int (XT.ushr b (16 : Int32)))]) rfl (by simp) (Or.inr nc) ?_
        intro T629 h630 w631 A632 W633
        have X634 : Ext h h630 := own_ext_wr X628 w631 (by rw [g622]; exact Nat.le_refl _)
        refine g_iload W633 at_106 (pc' := 108) rfl rfl ?_
        refine g_iconst W633 at_108 (pc' := 109) rfl (v := 2) rfl ?_
        refine g_icY W633 at_109 (pc' := 121) (flt (by decide : ¬ ((2 : Int32) < (2 : Int32)))).2.2.2 (by decide) (by decide) ?_
        refine g_iload W633 at_121 (pc' := 123) rfl rfl ?_
        refine g_iconst W633 at_123 (pc' := 124) rfl (v := 3) rfl ?_
        refine g_icY W633 at_124 (pc' := 137) (flt (by decide : ¬ ((3 : Int32) < (2 : Int32)))).2.2.2 (by decide) (by decide) ?_
        exact s137 T629 h630 ba a621 bk _ (own_ext_tr O1 X634) (A.ext X634) A632 ((W633.up (k' := 3) (j' := 30) (by decide) (by decide) (by decide) (by decide)).sf (SF' := []) (fun q hq => nomatch hq))
      · show Ogo p l e room_1 s m #[(.int len), (.int a), (.int b), (.int c1), (.int d), (.int slen)] below meth c Z a0 consts_1 [] "com/example/unnest/unnest/value/JsonStringAsciiPinLaw" "law" code maxLocals ret T (mkF m 71 #[.val (.int len), .val (.int a), .val (.int b), .val (.int c1), .val (.int d), .val (.int slen), .val (.int (Int32.ofNat n1)), .val (.int (3 : Int32)), .val (.ref ba), .unset, .unset, .unset, .unset, .unset, .unset, .unset, .unset, .unset, .unset, .unset, .unset, .unset] []) (fun v h _ => v = some (.int 1))
        refine g_iload W0 at_71 (pc' := 73) rfl rfl ?_
        refine g_newP W0 at_73 (pc' := 75) (cap := 3) rfl (ty := .char) (dv := (.int 0)) rfl rfl (hw _ (List.mem_of_getElem? (i := 2) rfl)) (by decide) (by decide) (by decide) (by decide) (by decide) ?_
        intro T635 h636 cA637 E638 A639 W640
        obtain ⟨a641, g642⟩ : ∃ z, z = h.size := ⟨_, rfl⟩
        rw [← g642] at A639 W640 ⊢
        have nc : s.heap.size ≤ a641 := by rw [g642]; exact W0.grown
        refine g_astore W640 at_75 (pc' := 77) rfl (ls' := #[.val (.int len), .val (.int a), .val (.int b), .val (.int c1), .val (.int d), .val (.int slen), .val (.int (Int32.ofNat n1)), .val (.int (3 : Int32)), .val (.ref ba), .val (.ref a641), .unset, .unset, .unset, .unset, .unset, .unset, .unset, .unset, .unset, .unset, .unset, .unset]) rfl rfl ?_
        refine g_iload W640 at_77 (pc' := 79) rfl rfl ?_
        refine g_ifN W640 at_79 (pc' := 82) (tlt (by decide : (0 : Int32) < (3 : Int32))).2.2.2 rfl ?_
        refine g_aload W640 at_82 (pc' := 84) rfl rfl rfl ?_
        refine g_iconst W640 at_84 (pc' := 85) rfl (v := 0) rfl ?_
        refine g_iloadN W640 at_85 (pc' := 86) rfl rfl ?_
        refine g_bipush W640 at_86 (pc' := 88) rfl (v := 16) rfl ?_
        refine g_iushr W640 at_88 (pc' := 89) rfl ?_
        refine g_i2c W640 at_89 (pc' := 90) rfl ?_
        rw [own_u2c]
        refine g_castore W640 at_90 (pc' := 91) rfl (own_pad0 3 A639) (i := 0) rfl (by decide) (by first | decide | simp) (y := (XT.ushr a (16 : Int32))) (own_u2c _) (vs' := [(.int (XT.ushr a (16 : Int32))), (.int (0 : Int32)), (.int (0 : Int32))]) rfl (by simp) (Or.inr nc) ?_
        intro T643 h644 w645 A646 W647
        have X648 : Ext h h644 := own_ext_wr E638 w645 (by rw [g642]; exact Nat.le_refl _)
        refine g_iload W647 at_91 (pc' := 93) rfl rfl ?_
        refine g_iconst W647 at_93 (pc' := 94) rfl (v := 1) rfl ?_
        refine g_icN W647 at_94 (pc' := 97) (tlt (by decide : (1 : Int32) < (3 : Int32))).2.2.2 rfl ?_
        refine g_aload W647 at_97 (pc' := 99) rfl rfl rfl ?_
        refine g_iconst W647 at_99 (pc' := 100) rfl (v := 1) rfl ?_
        refine g_iloadN W647 at_100 (pc' := 101) rfl rfl ?_
        refine g_bipush W647 at_101 (pc' := 103) rfl (v := 16) rfl ?_
        refine g_iushr W647 at_103 (pc' := 104) rfl ?_
        refine g_i2c W647 at_104 (pc' := 105) rfl ?_
        rw [own_u2c]
        refine g_castore W647 at_105 (pc' := 106) rfl A646 (i := 1) rfl (by decide) (by first | decide | simp) (y := (XT.ushr b (16 : Int32))) (own_u2c _) (vs' := [(.int (XT.ushr a (16 : Int32))), (.int (XT.ushr b (16 : Int32))), (.int (0 : Int32))]) rfl (by simp) (Or.inr nc) ?_
        intro T649 h650 w651 A652 W653
        have X654 : Ext h h650 := own_ext_wr X648 w651 (by rw [g642]; exact Nat.le_refl _)
        refine g_iload W653 at_106 (pc' := 108) rfl rfl ?_
        refine g_iconst W653 at_108 (pc' := 109) rfl (v := 2) rfl ?_
        refine g_icN W653 at_109 (pc' := 112) (tlt (by decide : (2 : Int32) < (3 : Int32))).2.2.2 rfl ?_
        refine g_aload W653 at_112 (pc' := 114) rfl rfl rfl ?_
        refine g_iconst W653 at_114 (pc' := 115) rfl (v := 2) rfl ?_
        refine g_iloadN W653 at_115 (pc' := 116) rfl rfl ?_
        refine g_bipush W653 at_116 (pc' := 118) rfl (v := 16) rfl ?_
        refine g_iushr W653 at_118 (pc' := 119) rfl ?_
        refine g_i2c W653 at_119 (pc' := 120) rfl ?_
        rw [own_u2c]
        refine g_castore W653 at_120 (pc' := 121) rfl A652 (i := 2) rfl (by decide) (by first | decide | simp) (y := (XT.ushr c1 (16 : Int32))) (own_u2c _) (vs' := [(.int (XT.ushr a (16 : Int32))), (.int (XT.ushr b (16 : Int32))), (.int (XT.ushr c1 (16 : Int32)))]) rfl (by simp) (Or.inr nc) ?_
        intro T655 h656 w657 A658 W659
        have X660 : Ext h h656 := own_ext_wr X654 w657 (by rw [g642]; exact Nat.le_refl _)
        refine g_iload W659 at_121 (pc' := 123) rfl rfl ?_
        refine g_iconst W659 at_123 (pc' := 124) rfl (v := 3) rfl ?_
        refine g_icY W659 at_124 (pc' := 137) (flt (by decide : ¬ ((3 : Int32) < (3 : Int32)))).2.2.2 (by decide) (by decide) ?_
        exact s137 T655 h656 ba a641 bk _ (own_ext_tr O1 X660) (A.ext X660) A658 ((W659.up (k' := 3) (j' := 30) (by decide) (by decide) (by decide) (by decide)).sf (SF' := []) (fun q hq => nomatch hq))
      · show Ogo p l e room_1 s m #[(.int len), (.int a), (.int b), (.int c1), (.int d), (.int slen)] below meth c Z a0 consts_1 [] "com/example/unnest/unnest/value/JsonStringAsciiPinLaw" "law" code maxLocals ret T (mkF m 71 #[.val (.int len), .val (.int a), .val (.int b), .val (.int c1), .val (.int d), .val (.int slen), .val (.int (Int32.ofNat n1)), .val (.int (4 : Int32)), .val (.ref ba), .unset, .unset, .unset, .unset, .unset, .unset, .unset, .unset, .unset, .unset, .unset, .unset, .unset] []) (fun v h _ => v = some (.int 1))
        refine g_iload W0 at_71 (pc' := 73) rfl rfl ?_
        refine g_newP W0 at_73 (pc' := 75) (cap := 4) rfl (ty := .char) (dv := (.int 0)) rfl rfl (hw _ (List.mem_of_getElem? (i := 2) rfl)) (by decide) (by decide) (by decide) (by decide) (by decide) ?_
        intro T661 h662 cA663 E664 A665 W666
        obtain ⟨a667, g668⟩ : ∃ z, z = h.size := ⟨_, rfl⟩
        rw [← g668] at A665 W666 ⊢
        have nc : s.heap.size ≤ a667 := by rw [g668]; exact W0.grown
        refine g_astore W666 at_75 (pc' := 77) rfl (ls' := #[.val (.int len), .val (.int a), .val (.int b), .val (.int c1), .val (.int d), .val (.int slen), .val (.int (Int32.ofNat n1)), .val (.int (4 : Int32)), .val (.ref ba), .val (.ref a667), .unset, .unset, .unset, .unset, .unset, .unset, .unset, .unset, .unset, .unset, .unset, .unset]) rfl rfl ?_
        refine g_iload W666 at_77 (pc' := 79) rfl rfl ?_
        refine g_ifN W666 at_79 (pc' := 82) (tlt (by decide : (0 : Int32) < (4 : Int32))).2.2.2 rfl ?_
        refine g_aload W666 at_82 (pc' := 84) rfl rfl rfl ?_
        refine g_iconst W666 at_84 (pc' := 85) rfl (v := 0) rfl ?_
        refine g_iloadN W666 at_85 (pc' := 86) rfl rfl ?_
        refine g_bipush W666 at_86 (pc' := 88) rfl (v := 16) rfl ?_
        refine g_iushr W666 at_88 (pc' := 89) rfl ?_
        refine g_i2c W666 at_89 (pc' := 90) rfl ?_
        rw [own_u2c]
        refine g_castore W666 at_90 (pc' := 91) rfl (own_pad0 4 A665) (i := 0) rfl (by decide) (by first | decide | simp) (y := (XT.ushr a (16 : Int32))) (own_u2c _) (vs' := [(.int (XT.ushr a (16 : Int32))), (.int (0 : Int32)), (.int (0 : Int32)), (.int (0 : Int32))]) rfl (by simp) (Or.inr nc) ?_
        intro T669 h670 w671 A672 W673
        have X674 : Ext h h670 := own_ext_wr E664 w671 (by rw [g668]; exact Nat.le_refl _)
        refine g_iload W673 at_91 (pc' := 93) rfl rfl ?_
        refine g_iconst W673 at_93 (pc' := 94) rfl (v := 1) rfl ?_
        refine g_icN W673 at_94 (pc' := 97) (tlt (by decide : (1 : Int32) < (4 : Int32))).2.2.2 rfl ?_
        refine g_aload W673 at_97 (pc' := 99) rfl rfl rfl ?_
        refine g_iconst W673 at_99 (pc' := 100) rfl (v := 1) rfl ?_
        refine g_iloadN W673 at_100 (pc' := 101) rfl rfl ?_
        refine g_bipush W673 at_101 (pc' := 103) rfl (v := 16) rfl ?_
        refine g_iushr W673 at_103 (pc' := 104) rfl ?_
        refine g_i2c W673 at_104 (pc' := 105) rfl ?_
        rw [own_u2c]
        refine g_castore W673 at_105 (pc' := 106) rfl A672 (i := 1) rfl (by decide) (by first | decide | simp) (y := (XT.ushr b (16 : Int32))) (own_u2c _) (vs' := [(.int (XT.ushr a (16 : Int32))), (.int (XT.ushr b (16 : Int32))), (.int (0 : Int32)), (.int (0 : Int32))]) rfl (by simp) (Or.inr nc) ?_
        intro T675 h676 w677 A678 W679
        have X680 : Ext h h676 := own_ext_wr X674 w677 (by rw [g668]; exact Nat.le_refl _)
        refine g_iload W679 at_106 (pc' := 108) rfl rfl ?_
        refine g_iconst W679 at_108 (pc' := 109) rfl (v := 2) rfl ?_
        refine g_icN W679 at_109 (pc' := 112) (tlt (by decide : (2 : Int32) < (4 : Int32))).2.2.2 rfl ?_
        refine g_aload W679 at_112 (pc' := 114) rfl rfl rfl ?_
        refine g_iconst W679 at_114 (pc' := 115) rfl (v := 2) rfl ?_
        refine g_iloadN W679 at_115 (pc' := 116) rfl rfl ?_
        refine g_bipush W679 at_116 (pc' := 118) rfl (v := 16) rfl ?_
        refine g_iushr W679 at_118 (pc' := 119) rfl ?_
        refine g_i2c W679 at_119 (pc' := 120) rfl ?_
        rw [own_u2c]
        refine g_castore W679 at_120 (pc' := 121) rfl A678 (i := 2) rfl (by decide) (by first | decide | simp) (y := (XT.ushr c1 (16 : Int32))) (own_u2c _) (vs' := [(.int (XT.ushr a (16 : Int32))), (.int (XT.ushr b (16 : Int32))), (.int (XT.ushr c1 (16 : Int32))), (.int (0 : Int32))]) rfl (by simp) (Or.inr nc) ?_
        intro T681 h682 w683 A684 W685
        have X686 : Ext h h682 := own_ext_wr X680 w683 (by rw [g668]; exact Nat.le_refl _)
        refine g_iload W685 at_121 (pc' := 123) rfl rfl ?_
        refine g_iconst W685 at_123 (pc' := 124) rfl (v := 3) rfl ?_
        refine g_icN W685 at_124 (pc' := 127) (tlt (by decide : (3 : Int32) < (4 : Int32))).2.2.2 rfl ?_
        refine g_aload W685 at_127 (pc' := 129) rfl rfl rfl ?_
        refine g_iconst W685 at_129 (pc' := 130) rfl (v := 3) rfl ?_
        refine g_iload W685 at_130 (pc' := 132) rfl rfl ?_
        refine g_bipush W685 at_132 (pc' := 134) rfl (v := 16) rfl ?_
        refine g_iushr W685 at_134 (pc' := 135) rfl ?_
        refine g_i2c W685 at_135 (pc' := 136) rfl ?_
        rw [own_u2c]
        refine g_castore W685 at_136 (pc' := 137) rfl A684 (i := 3) rfl (by decide) (by first | decide | simp) (y := (XT.ushr d (16 : Int32))) (own_u2c _) (vs' := [(.int (XT.ushr a (16 : Int32))), (.int (XT.ushr b (16 : Int32))), (.int (XT.ushr c1 (16 : Int32))), (.int (XT.ushr d (16 : Int32)))]) rfl (by simp) (Or.inr nc) ?_
        intro T687 h688 w689 A690 W691
        have X692 : Ext h h688 := own_ext_wr X686 w689 (by rw [g668]; exact Nat.le_refl _)
        exact s137 T687 h688 ba a667 bk _ (own_ext_tr O1 X692) (A.ext X692) A690 ((W691.up (k' := 3) (j' := 30) (by decide) (by decide) (by decide) (by decide)).sf (SF' := []) (fun q hq => nomatch hq))
    rcases own_lt5 hn1 with rfl | rfl | rfl | rfl | rfl
    · show Ogo p l e room_1 s m #[(.int len), (.int a), (.int b), (.int c1), (.int d), (.int slen)] below meth c Z a0 consts_1 [] "com/example/unnest/unnest/value/JsonStringAsciiPinLaw" "law" code maxLocals ret T1 (mkF m 17 #[.val (.int len), .val (.int a), .val (.int b), .val (.int c1), .val (.int d), .val (.int slen), .val (.int (0 : Int32)), .val (.int (Int32.ofNat n2)), .unset, .unset, .unset, .unset, .unset, .unset, .unset, .unset, .unset, .unset, .unset, .unset, .unset, .unset] []) (fun v h _ => v = some (.int 1))
      refine g_iload W01 at_17 (pc' := 19) rfl rfl ?_
      refine g_newP W01 at_19 (pc' := 21) (cap := 0) rfl (ty := .byte) (dv := (.int 0)) rfl rfl (hw _ (List.mem_of_getElem? (i := 1) rfl)) (by decide) (by decide) (by decide) (by decide) (by decide) ?_
      intro T693 h694 cA695 E696 A697 W698
      obtain ⟨a699, g700⟩ : ∃ z, z = h0.size := ⟨_, rfl⟩
      rw [← g700] at A697 W698 ⊢
      have nb : s.heap.size ≤ a699 := by rw [g700]; exact W01.grown
      refine g_astore W698 at_21 (pc' := 23) rfl (ls' := #[.val (.int len), .val (.int a), .val (.int b), .val (.int c1), .val (.int d), .val (.int slen), .val (.int (0 : Int32)), .val (.int (Int32.ofNat n2)), .val (.ref a699), .unset, .unset, .unset, .unset, .unset, .unset, .unset, .unset, .unset, .unset, .unset, .unset, .unset]) rfl rfl ?_
      refine g_iload W698 at_23 (pc' := 25) rfl rfl ?_
      refine g_ifY W698 at_25 (pc' := 34) (flt (by decide : ¬ ((0 : Int32) < (0 : Int32)))).2.2.2 (by decide) (by decide) ?_
      refine g_iload W698 at_34 (pc' := 36) rfl rfl ?_
      refine g_iconst W698 at_36 (pc' := 37) rfl (v := 1) rfl ?_
      refine g_icY W698 at_37 (pc' := 46) (flt (by decide : ¬ ((1 : Int32) < (0 : Int32)))).2.2.2 (by decide) (by decide) ?_
      refine g_iload W698 at_46 (pc' := 48) rfl rfl ?_
      refine g_iconst W698 at_48 (pc' := 49) rfl (v := 2) rfl ?_
      refine g_icY W698 at_49 (pc' := 58) (flt (by decide : ¬ ((2 : Int32) < (0 : Int32)))).2.2.2 (by decide) (by decide) ?_
      refine g_iload W698 at_58 (pc' := 60) rfl rfl ?_
      refine g_iconst W698 at_60 (pc' := 61) rfl (v := 3) rfl ?_
      refine g_icY W698 at_61 (pc' := 71) (flt (by decide : ¬ ((3 : Int32) < (0 : Int32)))).2.2.2 (by decide) (by decide) ?_
      exact s71 T693 h694 a699 _ (own_ext_tr O E696) (own_pad0 0 A697) ((W698.up (k' := 1) (j' := 4) (by decide) (by decide) (by decide) (by decide)).sf (SF' := []) (fun q hq => nomatch hq))
    · show Ogo p l e room_1 s m #[(.int len), (.int a), (.int b), (.int c1), (.int d), (.int slen)] below meth c Z a0 consts_1 [] "com/example/unnest/unnest/value/JsonStringAsciiPinLaw" "law" code maxLocals ret T1 (mkF m 17 #[.val (.int len), .val (.int a), .val (.int b), .val (.int c1), .val (.int d), .val (.int slen), .val (.int (1 : Int32)), .val (.int (Int32.ofNat n2)), .unset, .unset, .unset, .unset, .unset, .unset, .unset, .unset, .unset, .unset, .unset, .unset, .unset, .unset] []) (fun v h _ => v = some (.int 1))
      refine g_iload W01 at_17 (pc' := 19) rfl rfl ?_
      refine g_newP W01 at_19 (pc' := 21) (cap := 1) rfl (ty := .byte) (dv := (.int 0)) rfl rfl (hw _ (List.mem_of_getElem? (i := 1) rfl)) (by decide) (by decide) (by decide) (by decide) (by decide) ?_
      intro T701 h702 cA703 E704 A705 W706
      obtain ⟨a707, g708⟩ : ∃ z, z = h0.size := ⟨_, rfl⟩
      rw [← g708] at A705 W706 ⊢
      have nb : s.heap.size ≤ a707 := by rw [g708]; exact W01.grown
      refine g_astore W706 at_21 (pc' := 23) rfl (ls' := #[.val (.int len), .val (.int a), .val (.int b), .val (.int c1), .val (.int d), .val (.int slen), .val (.int (1 : Int32)), .val (.int (Int32.ofNat n2)), .val (.ref a707), .unset, .unset, .unset, .unset, .unset, .unset, .unset, .unset, .unset, .unset, .unset, .unset, .unset]) rfl rfl ?_
      refine g_iload W706 at_23 (pc' := 25) rfl rfl ?_
      refine g_ifN W706 at_25 (pc' := 28) (tlt (by decide : (0 : Int32) < (1 : Int32))).2.2.2 rfl ?_
      refine g_aload W706 at_28 (pc' := 30) rfl rfl rfl ?_
      refine g_iconst W706 at_30 (pc' := 31) rfl (v := 0) rfl ?_
      refine g_iloadN W706 at_31 (pc' := 32) rfl rfl ?_
      refine g_i2b W706 at_32 (pc' := 33) rfl ?_
      refine g_bastore W706 at_33 (pc' := 34) rfl (own_pad0 1 A705) (i := 0) rfl (by decide) (by first | decide | simp) (y := a.toInt8.toInt32) (own_lo8 _) (vs' := [(.int a.toInt8.toInt32)]) rfl (by simp) (Or.inr nb) ?_
      intro T709 h710 w711 A712 W713
      have X714 : Ext h0 h710 := own_ext_wr E704 w711 (by rw [g708]; exact Nat.le_refl _)
      refine g_iload W713 at_34 (pc' := 36) rfl rfl ?_
      refine g_iconst W713 at_36 (pc' := 37) rfl (v := 1) rfl ?_
      refine g_icY W713 at_37 (pc' := 46) (flt (by decide : ¬ ((1 : Int32) < (1 : Int32)))).2.2.2 (by decide) (by decide) ?_
      refine g_iload W713 at_46 (pc' := 48) rfl rfl ?_
      refine g_iconst W713 at_48 (pc' := 49) rfl (v := 2) rfl ?_
      refine g_icY W713 at_49 (pc' := 58) (flt (by decide : ¬ ((2 : Int32) < (1 : Int32)))).2.2.2 (by decide) (by decide) ?_
      refine g_iload W713 at_58 (pc' := 60) rfl rfl ?_
      refine g_iconst W713 at_60 (pc' := 61) rfl (v := 3) rfl ?_
      refine g_icY W713 at_61 (pc' := 71) (flt (by decide : ¬ ((3 : Int32) < (1 : Int32)))).2.2.2 (by decide) (by decide) ?_
      exact s71 T709 h710 a707 _ (own_ext_tr O X714) A712 ((W713.up (k' := 1) (j' := 4) (by decide) (by decide) (by decide) (by decide)).sf (SF' := []) (fun q hq => nomatch hq))
    · show Ogo p l e room_1 s m #[(.int len), (.int a), (.int b), (.int c1), (.int d), (.int slen)] below meth c Z a0 consts_1 [] "com/example/unnest/unnest/value/JsonStringAsciiPinLaw" "law" code maxLocals ret T1 (mkF m 17 #[.val (.int len), .val (.int a), .val (.int b), .val (.int c1), .val (.int d), .val (.int slen), .val (.int (2 : Int32)), .val (.int (Int32.ofNat n2)), .unset, .unset, .unset, .unset, .unset, .unset, .unset, .unset, .unset, .unset, .unset, .unset, .unset, .unset] []) (fun v h _ => v = some (.int 1))
      refine g_iload W01 at_17 (pc' := 19) rfl rfl ?_
      refine g_newP W01 at_19 (pc' := 21) (cap := 2) rfl (ty := .byte) (dv := (.int 0)) rfl rfl (hw _ (List.mem_of_getElem? (i := 1) rfl)) (by decide) (by decide) (by decide) (by decide) (by decide) ?_
      intro T715 h716 cA717 E718 A719 W720
      obtain ⟨a721, g722⟩ : ∃ z, z = h0.size := ⟨_, rfl⟩
      rw [← g722] at A719 W720 ⊢
      have nb : s.heap.size ≤ a721 := by rw [g722]; exact W01.grown
      refine g_astore W720 at_21 (pc' := 23) rfl (ls' := #[.val (.int len), .val (.int a), .val (.int b), .val (.int c1), .val (.int d), .val (.int slen), .val (.int (2 : Int32)), .val (.int (Int32.ofNat n2)), .val (.ref a721), .unset, .unset, .unset, .unset, .unset, .unset, .unset, .unset, .unset, .unset, .unset, .unset, .unset]) rfl rfl ?_
      refine g_iload W720 at_23 (pc' := 25) rfl rfl ?_
      refine g_ifN W720 at_25 (pc' := 28) (tlt (by decide : (0 : Int32) < (2 : Int32))).2.2.2 rfl ?_
      refine g_aload W720 at_28 (pc' := 30) rfl rfl rfl ?_
      refine g_iconst W720 at_30 (pc' := 31) rfl (v := 0) rfl ?_
      refine g_iloadN W720 at_31 (pc' := 32) rfl rfl ?_
      refine g_i2b W720 at_32 (pc' := 33) rfl ?_
      refine g_bastore W720 at_33 (pc' := 34) rfl (own_pad0 2 A719) (i := 0) rfl (by decide) (by first | decide | simp) (y := a.toInt8.toInt32) (own_lo8 _) (vs' := [(.int a.toInt8.toInt32), (.int (0 : Int32))]) rfl (by simp) (Or.inr nb) ?_
      intro T723 h724 w725 A726 W727
      have X728 : Ext h0 h724 := own_ext_wr E718 w725 (by rw [g722]; exact Nat.le_refl _)
      refine g_iload W727 at_34 (pc' := 36) rfl rfl ?_
      refine g_iconst W727 at_36 (pc' := 37) rfl (v := 1) rfl ?_
      refine g_icN W727 at_37 (pc' := 40) (tlt (by decide : (1 : Int32) < (2 : Int32))).2.2.2 rfl ?_
      refine g_aload W727 at_40 (pc' := 42) rfl rfl rfl ?_
      refine g_iconst W727 at_42 (pc' := 43) rfl (v := 1) rfl ?_
      refine g_iloadN W727 at_43 (pc' := 44) rfl rfl ?_
      refine g_i2b W727 at_44 (pc' := 45) rfl ?_
      refine g_bastore W727 at_45 (pc' := 46) rfl A726 (i := 1) rfl (by decide) (by first | decide | simp) (y := b.toInt8.toInt32) (own_lo8 _) (vs' := [(.int a.toInt8.toInt32), (.int b.toInt8.toInt32)]) rfl (by simp) (Or.inr nb) ?_
      intro T729 h730 w731 A732 W733
      have X734 : Ext h0 h730 := own_ext_wr X728 w731 (by rw [g722]; exact Nat.le_refl _)
      refine g_iload W733 at_46 (pc' := 48) rfl rfl ?_
      refine g_iconst W733 at_48 (pc' := 49) rfl (v := 2) rfl ?_
      refine g_icY W733 at_49 (pc' := 58) (flt (by decide : ¬ ((2 : Int32) < (2 : Int32)))).2.2.2 (by decide) (by decide) ?_
      refine g_iload W733 at_58 (pc' := 60) rfl rfl ?_
      refine g_iconst W733 at_60 (pc' := 61) rfl (v := 3) rfl ?_
      refine g_icY W733 at_61 (pc' := 71) (flt (by decide : ¬ ((3 : Int32) < (2 : Int32)))).2.2.2 (by decide) (by decide) ?_
      exact s71 T729 h730 a721 _ (own_ext_tr O X734) A732 ((W733.up (k' := 1) (j' := 4) (by decide) (by decide) (by decide) (by decide)).sf (SF' := []) (fun q hq => nomatch hq))
    · show Ogo p l e room_1 s m #[(.int len), (.int a), (.int b), (.int c1), (.int d), (.int slen)] below meth c Z a0 consts_1 [] "com/example/unnest/unnest/value/JsonStringAsciiPinLaw" "law" code maxLocals ret T1 (mkF m 17 #[.val (.int len), .val (.int a), .val (.int b), .val (.int c1), .val (.int d), .val (.int slen), .val (.int (3 : Int32)), .val (.int (Int32.ofNat n2)), .unset, .unset, .unset, .unset, .unset, .unset, .unset, .unset, .unset, .unset, .unset, .unset, .unset, .unset] []) (fun v h _ => v = some (.int 1))
      refine g_iload W01 at_17 (pc' := 19) rfl rfl ?_
      refine g_newP W01 at_19 (pc' := 21) (cap := 3) rfl (ty := .byte) (dv := (.int 0)) rfl rfl (hw _ (List.mem_of_getElem? (i := 1) rfl)) (by decide) (by decide) (by decide) (by decide) (by decide) ?_
      intro T735 h736 cA737 E738 A739 W740
      obtain ⟨a741, g742⟩ : ∃ z, z = h0.size := ⟨_, rfl⟩
      rw [← g742] at A739 W740 ⊢
      have nb : s.heap.size ≤ a741 := by rw [g742]; exact W01.grown
      refine g_astore W740 at_21 (pc' := 23) rfl (ls' := #[.val (.int len), .val (.int a), .val (.int b), .val (.int c1), .val (.int d), .val (.int slen), .val (.int (3 : Int32)), .val (.int (Int32.ofNat n2)), .val (.ref a741), .unset, .unset, .unset, .unset, .unset, .unset, .unset, .unset, .unset, .unset, .unset, .unset, .unset]) rfl rfl ?_
      refine g_iload W740 at_23 (pc' := 25) rfl rfl ?_
      refine g_ifN W740 at_25 (pc' := 28) (tlt (by decide : (0 : Int32) < (3 : Int32))).2.2.2 rfl ?_
      refine g_aload W740 at_28 (pc' := 30) rfl rfl rfl ?_
      refine g_iconst W740 at_30 (pc' := 31) rfl (v := 0) rfl ?_
      refine g_iloadN W740 at_31 (pc' := 32) rfl rfl ?_
      refine g_i2b W740 at_32 (pc' := 33) rfl ?_
      refine g_bastore W740 at_33 (pc' := 34) rfl (own_pad0 3 A739) (i := 0) rfl (by decide) (by first | decide | simp) (y := a.toInt8.toInt32) (own_lo8 _) (vs' := [(.int a.toInt8.toInt32), (.int (0 : Int32)), (.int (0 : Int32))]) rfl (by simp) (Or.inr nb) ?_
      intro T743 h744 w745 A746 W747
      have X748 : Ext h0 h744 := own_ext_wr E738 w745 (by rw [g742]; exact Nat.le_refl _)
      refine g_iload W747 at_34 (pc' := 36) rfl rfl ?_
      refine g_iconst W747 at_36 (pc' := 37) rfl (v := 1) rfl ?_
      refine g_icN W747 at_37 (pc' := 40) (tlt (by decide : (1 : Int32) < (3 : Int32))).2.2.2 rfl ?_
      refine g_aload W747 at_40 (pc' := 42) rfl rfl rfl ?_
      refine g_iconst W747 at_42 (pc' := 43) rfl (v := 1) rfl ?_
      refine g_iloadN W747 at_43 (pc' := 44) rfl rfl ?_
      refine g_i2b W747 at_44 (pc' := 45) rfl ?_
      refine g_bastore W747 at_45 (pc' := 46) rfl A746 (i := 1) rfl (by decide) (by first | decide | simp) (y := b.toInt8.toInt32) (own_lo8 _) (vs' := [(.int a.toInt8.toInt32), (.int b.toInt8.toInt32), (.int (0 : Int32))]) rfl (by simp) (Or.inr nb) ?_
      intro T749 h750 w751 A752 W753
      have X754 : Ext h0 h750 := own_ext_wr X748 w751 (by rw [g742]; exact Nat.le_refl _)
      refine g_iload W753 at_46 (pc' := 48) rfl rfl ?_
      refine g_iconst W753 at_48 (pc' := 49) rfl (v := 2) rfl ?_
      refine g_icN W753 at_49 (pc' := 52) (tlt (by decide : (2 : Int32) < (3 : Int32))).2.2.2 rfl ?_
      refine g_aload W753 at_52 (pc' := 54) rfl rfl rfl ?_
      refine g_iconst W753 at_54 (pc' := 55) rfl (v := 2) rfl ?_
      refine g_iloadN W753 at_55 (pc' := 56) rfl rfl ?_
      refine g_i2b W753 at_56 (pc' := 57) rfl ?_
      refine g_bastore W753 at_57 (pc' := 58) rfl A752 (i := 2) rfl (by decide) (by first | decide | simp) (y := c1.toInt8.toInt32) (own_lo8 _) (vs' := [(.int a.toInt8.toInt32), (.int b.toInt8.toInt32), (.int c1.toInt8.toInt32)]) rfl (by simp) (Or.inr nb) ?_
      intro T755 h756 w757 A758 W759
      have X760 : Ext h0 h756 := own_ext_wr X754 w757 (by rw [g742]; exact Nat.le_refl _)
      refine g_iload W759 at_58 (pc' := 60) rfl rfl ?_
      refine g_iconst W759 at_60 (pc' := 61) rfl (v := 3) rfl ?_
      refine g_icY W759 at_61 (pc' := 71) (flt (by decide : ¬ ((3 : Int32) < (3 : Int32)))).2.2.2 (by decide) (by decide) ?_
      exact s71 T755 h756 a741 _ (own_ext_tr O X760) A758 ((W759.up (k' := 1) (j' := 4) (by decide) (by decide) (by decide) (by decide)).sf (SF' := []) (fun q hq => nomatch hq))
    · show Ogo p l e room_1 s m #[(.int len), (.int a), (.int b), (.int c1), (.int d), (.int slen)] below meth c Z a0 consts_1 [] "com/example/unnest/unnest/value/JsonStringAsciiPinLaw" "law" code maxLocals ret T1 (mkF m 17 #[.val (.int len), .val (.int a), .val (.int b), .val (.int c1), .val (.int d), .val (.int slen), .val (.int (4 : Int32)), .val (.int (Int32.ofNat n2)), .unset, .unset, .unset, .unset, .unset, .unset, .unset, .unset, .unset, .unset, .unset, .unset, .unset, .unset] []) (fun v h _ => v = some (.int 1))
      refine g_iload W01 at_17 (pc' := 19) rfl rfl ?_
      refine g_newP W01 at_19 (pc' := 21) (cap := 4) rfl (ty := .byte) (dv := (.int 0)) rfl rfl (hw _ (List.mem_of_getElem? (i := 1) rfl)) (by decide) (by decide) (by decide) (by decide) (by decide) ?_
      intro T761 h762 cA763 E764 A765 W766
      obtain ⟨a767, g768⟩ : ∃ z, z = h0.size := ⟨_, rfl⟩
      rw [← g768] at A765 W766 ⊢
      have nb : s.heap.size ≤ a767 := by rw [g768]; exact W01.grown
      refine g_astore W766 at_21 (pc' := 23) rfl (ls' := #[.val (.int len), .val (.int a), .val (.int b), .val (.int c1), .val (.int d), .val (.int slen), .val (.int (4 : Int32)), .val (.int (Int32.ofNat n2)), .val (.ref a767), .unset, .unset, .unset, .unset, .unset, .unset, .unset, .unset, .unset, .unset, .unset, .unset, .unset]) rfl rfl ?_
      refine g_iload W766 at_23 (pc' := 25) rfl rfl ?_
      refine g_ifN W766 at_25 (pc' := 28) (tlt (by decide : (0 : Int32) < (4 : Int32))).2.2.2 rfl ?_
      refine g_aload W766 at_28 (pc' := 30) rfl rfl rfl ?_
      refine g_iconst W766 at_30 (pc' := 31) rfl (v := 0) rfl ?_
      refine g_iloadN W766 at_31 (pc' := 32) rfl rfl ?_
      refine g_i2b W766 at_32 (pc' := 33) rfl ?_
      refine g_bastore W766 at_33 (pc' := 34) rfl (own_pad0 4 A765) (i := 0) rfl (by decide) (by first | decide | simp) (y := a.toInt8.toInt32) (own_lo8 _) (vs' := [(.int a.toInt8.toInt32), (.int (0 : Int32)), (.int (0 : Int32)), (.int (0 : Int32))]) rfl (by simp) (Or.inr nb) ?_
      intro T769 h770 w771 A772 W773
      have X774 : Ext h0 h770 := own_ext_wr E764 w771 (by rw [g768]; exact Nat.le_refl _)
      refine g_iload W773 at_34 (pc' := 36) rfl rfl ?_
      refine g_iconst W773 at_36 (pc' := 37) rfl (v := 1) rfl ?_
      refine g_icN W773 at_37 (pc' := 40) (tlt (by decide : (1 : Int32) < (4 : Int32))).2.2.2 rfl ?_
      refine g_aload W773 at_40 (pc' := 42) rfl rfl rfl ?_
      refine g_iconst W773 at_42 (pc' := 43) rfl (v := 1) rfl ?_
      refine g_iloadN W773 at_43 (pc' := 44) rfl rfl ?_
      refine g_i2b W773 at_44 (pc' := 45) rfl ?_
      refine g_bastore W773 at_45 (pc' := 46) rfl A772 (i := 1) rfl (by decide) (by first | decide | simp) (y := b.toInt8.toInt32) (own_lo8 _) (vs' := [(.int a.toInt8.toInt32), (.int b.toInt8.toInt32), (.int (0 : Int32)), (.int (0 : Int32))]) rfl (by simp) (Or.inr nb) ?_
      intro T775 h776 w777 A778 W779
      have X780 : Ext h0 h776 := own_ext_wr X774 w777 (by rw [g768]; exact Nat.le_refl _)
      refine g_iload W779 at_46 (pc' := 48) rfl rfl ?_
      refine g_iconst W779 at_48 (pc' := 49) rfl (v := 2) rfl ?_
      refine g_icN W779 at_49 (pc' := 52) (tlt (by decide : (2 : Int32) < (4 : Int32))).2.2.2 rfl ?_
      refine g_aload W779 at_52 (pc' := 54) rfl rfl rfl ?_
      refine g_iconst W779 at_54 (pc' := 55) rfl (v := 2) rfl ?_
      refine g_iloadN W779 at_55 (pc' := 56) rfl rfl ?_
      refine g_i2b W779 at_56 (pc' := 57) rfl ?_
      refine g_bastore W779 at_57 (pc' := 58) rfl A778 (i := 2) rfl (by decide) (by first | decide | simp) (y := c1.toInt8.toInt32) (own_lo8 _) (vs' := [(.int a.toInt8.toInt32), (.int b.toInt8.toInt32), (.int c1.toInt8.toInt32), (.int (0 : Int32))]) rfl (by simp) (Or.inr nb) ?_
      intro T781 h782 w783 A784 W785
      have X786 : Ext h0 h782 := own_ext_wr X780 w783 (by rw [g768]; exact Nat.le_refl _)
      refine g_iload W785 at_58 (pc' := 60) rfl rfl ?_
      refine g_iconst W785 at_60 (pc' := 61) rfl (v := 3) rfl ?_
      refine g_icN W785 at_61 (pc' := 64) (tlt (by decide : (3 : Int32) < (4 : Int32))).2.2.2 rfl ?_
      refine g_aload W785 at_64 (pc' := 66) rfl rfl rfl ?_
      refine g_iconst W785 at_66 (pc' := 67) rfl (v := 3) rfl ?_
      refine g_iload W785 at_67 (pc' := 69) rfl rfl ?_
      refine g_i2b W785 at_69 (pc' := 70) rfl ?_
      refine g_bastore W785 at_70 (pc' := 71) rfl A784 (i := 3) rfl (by decide) (by first | decide | simp) (y := d.toInt8.toInt32) (own_lo8 _) (vs' := [(.int a.toInt8.toInt32), (.int b.toInt8.toInt32), (.int c1.toInt8.toInt32), (.int d.toInt8.toInt32)]) rfl (by simp) (Or.inr nb) ?_
      intro T787 h788 w789 A790 W791
      have X792 : Ext h0 h788 := own_ext_wr X786 w789 (by rw [g768]; exact Nat.le_refl _)
      exact s71 T787 h788 a767 _ (own_ext_tr O X792) A790 ((W791.up (k' := 1) (j' := 4) (by decide) (by decide) (by decide) (by decide)).sf (SF' := []) (fun q hq => nomatch hq))
  have ef : entryFrame m #[(.int len), (.int a), (.int b), (.int c1), (.int d), (.int slen)] maxLocals = mkF m 0 #[.val (.int len), .val (.int a), .val (.int b), .val (.int c1), .val (.int d), .val (.int slen), .unset, .unset, .unset, .unset, .unset, .unset, .unset, .unset, .unset, .unset, .unset, .unset, .unset, .unset, .unset, .unset] [] := own_entry m [(.int len), (.int a), (.int b), (.int c1), (.int d), (.int slen)] maxLocals (by simp [Value.category]) rfl
  rw [ef]
  refine g_iloadN W00 at_0 (pc' := 1) rfl rfl ?_
  refine g_ldcI W00 at_1 (pc' := 3) rfl (hw _ (List.mem_of_getElem? (i := 0) rfl)) ?_
  refine g_iand W00 at_3 (pc' := 4) rfl ?_
  refine g_iconst W00 at_4 (pc' := 5) rfl (v := 5) rfl ?_
  refine g_irem W00 at_5 (pc' := 6) rfl (by decide) ?_
  obtain ⟨n1, hn1, en1⟩ : ∃ i, i < 5 ∧ (len &&& 2147483647) % 5 = Int32.ofNat i := own_rem len (n := 5) (by decide) (by decide)
  rw [en1]
  refine g_istore W00 at_6 (pc' := 8) rfl (ls' := #[.val (.int len), .val (.int a), .val (.int b), .val (.int c1), .val (.int d), .val (.int slen), .val (.int (Int32.ofNat n1)), .unset, .unset, .unset, .unset, .unset, .unset, .unset, .unset, .unset, .unset, .unset, .unset, .unset, .unset, .unset]) rfl ?_
  refine g_iload W00 at_8 (pc' := 10) rfl rfl ?_
  refine g_ldcI W00 at_10 (pc' := 12) rfl (hw _ (List.mem_of_getElem? (i := 0) rfl)) ?_
  refine g_iand W00 at_12 (pc' := 13) rfl ?_
  refine g_iconst W00 at_13 (pc' := 14) rfl (v := 5) rfl ?_
  refine g_irem W00 at_14 (pc' := 15) rfl (by decide) ?_
  obtain ⟨n2, hn2, en2⟩ : ∃ i, i < 5 ∧ (slen &&& 2147483647) % 5 = Int32.ofNat i := own_rem slen (n := 5) (by decide) (by decide)
  rw [en2]
  refine g_istore W00 at_15 (pc' := 17) rfl (ls' := #[.val (.int len), .val (.int a), .val (.int b), .val (.int c1), .val (.int d), .val (.int slen), .val (.int (Int32.ofNat n1)), .val (.int (Int32.ofNat n2)), .unset, .unset, .unset, .unset, .unset, .unset, .unset, .unset, .unset, .unset, .unset, .unset, .unset, .unset]) rfl ?_
  exact rest n1 n2 _ hn1 hn2 W00
set_option maxRecDepth 65536 in
set_option maxHeartbeats 40000000 in
theorem comes_1 {Post : Tables → Env → Array Value → State → Outcome → State → Prop} (hpost : ∀ tb e args s v u, (limb_1_1.after args s (.returned v) u = true ∧ limb_1_2.after args s (.returned v) u = true ∧ True) → ReturnedEndW s (.returned v) u (Jvm.fieldLocs frame_1_writes args s ++ Jvm.arrayLocs frame_1_arrays args s ++ Jvm.staticLocs frame_1_statics s) 32 1216 → Post tb e args s (.returned v) u) :
    ArmFor flags0 classFile x code maxLocals ret World_1 tables_1 room_1 Calls_1 rest_1 Pre_1 Post := by
  intro l hfl _ _ p e ha hc hk s m args below hf hA hF happ hP
  obtain ⟨hcalls, hrest, hpre⟩ := hP
  obtain ⟨-, -, -, hnamed, -, -, -, hat⟩ := (Spec.applies_iff hf).mp happ
  obtain ⟨hg, hn⟩ := and_e (Cond.before_iff.mp (show (Jvm.Cond.and given_1 narrow_1).before args s = true from hpre))
  obtain ⟨g0, r0⟩ := and_e hg
  obtain ⟨g1, r1⟩ := and_e r0
  obtain ⟨g2, r2⟩ := and_e r1
  obtain ⟨g3, r3⟩ := and_e r2
  obtain ⟨g4, r4⟩ := and_e r3
  obtain ⟨g5, r5⟩ := and_e r4
  obtain ⟨w0, w1, w2, w3, w4, w5, rfl⟩ : ∃ w0 w1 w2 w3 w4 w5 : Value, args = #[w0, w1, w2, w3, w4, w5] := by
    have hs : args.size = 6 := by simpa [Cond.value, given_1] using g0
    obtain ⟨L⟩ := args
    match L, hs with
    | [w0, w1, w2, w3, w4, w5], _ => exact ⟨w0, w1, w2, w3, w4, w5, rfl⟩
  have hw := fun d (hd : d ∈ tables_1) => atoms_spec (ws := Jvm.Cond.code x code maxLocals ret :: tables_1) hat d (List.mem_cons_of_mem _ hd)
  have hfit : Fit s := fun {y c} hc i hi => by
    obtain ⟨ha, rfl⟩ := Array.getElem?_eq_some_iff.mp hc
    have q := List.all_eq_true.mp ((Array.all_eq_true_iff_forall_mem.mp hF) _ (Array.getElem_mem ha)) i (List.mem_range.mpr hi)
    simpa [Array.getElem?_eq_getElem hi] using q
  obtain ⟨hsets, hown0⟩ := atoms_of _ (rest_1_c_eq ▸ (show rest_1_c.before _ s = true from hrest))
  obtain ⟨i0, ei0⟩ := is_v g1
  obtain rfl : w0 = (.int i0) := Option.some.inj ei0
  obtain ⟨i1, ei1⟩ := is_v g2
  obtain rfl : w1 = (.int i1) := Option.some.inj ei1
  obtain ⟨i2, ei2⟩ := is_v g3
  obtain rfl : w2 = (.int i2) := Option.some.inj ei2
  obtain ⟨i3, ei3⟩ := is_v g4
  obtain rfl : w3 = (.int i3) := Option.some.inj ei3
  obtain ⟨i4, ei4⟩ := is_v g5
  obtain rfl : w4 = (.int i4) := Option.some.inj ei4
  obtain ⟨i5, ei5⟩ := is_v r5
  obtain rfl : w5 = (.int i5) := Option.some.inj ei5
  have n5 := not_v (Cond.before_iff.mp (hsets _ (List.mem_of_getElem? (i := 2) rfl)))
  obtain ⟨zc, ezc⟩ := is_v (Cond.before_iff.mp (hsets _ (List.mem_of_getElem? (i := 1) rfl)))
  have SC : Sta s s.heap "java/lang/String" "COMPACT_STRINGS" "Z" (.int zc) := Sta.start ezc (Or.inl (hsets _ (List.mem_of_getElem? (i := 0) rfl)))
  have hzc : ¬ (zc = (0 : Int32)) := gotF (Cond.eq_ints ezc (Term.int_eval (0))) n5
  have hEL : EW s _ consts_1 := (EW.cons (text := own_text 142) (hw _ (List.mem_of_getElem? (i := 142) rfl)) (by decide +kernel) EW.nil)
  have hCH : CHv s consts_1 s.vm s.heap := CHv.start hEL (fun q hq => hcalls.1 q hq) (hsets _ (List.mem_of_getElem? (i := 2) rfl)) (hw _ (List.mem_of_getElem? (i := 1) rfl)) (hw _ (List.mem_of_getElem? (i := 4) rfl))
  obtain ⟨fm, efm, hfm⟩ := isR_v (Cond.before_iff.mp (hsets _ (List.mem_of_getElem? (i := 8) rfl)))
  have SF1 : Sta s s.heap "jdk/internal/util/Preconditions" "SIOOBE_FORMATTER" "Ljava/util/function/BiFunction;" fm := Sta.start efm (Or.inl (hsets _ (List.mem_of_getElem? (i := 7) rfl)))
  have SA : Sta s s.heap "java/lang/StringUTF16" "$assertionsDisabled" "Z" (.int 1) := Sta.start (eqv_i (Term.int_eval 1) (Cond.before_iff.mp (hsets _ (List.mem_of_getElem? (i := 12) rfl)))) (Or.inl (hsets _ (List.mem_of_getElem? (i := 11) rfl)))
  have SH : Sta s s.heap "java/lang/StringUTF16" "HI_BYTE_SHIFT" "I" (.int 0) := Sta.start (eqv_i (Term.int_eval 0) (Cond.before_iff.mp (hsets _ (List.mem_of_getElem? (i := 15) rfl)))) (Or.inl (hsets _ (List.mem_of_getElem? (i := 14) rfl)))
  have SL : Sta s s.heap "java/lang/StringUTF16" "LO_BYTE_SHIFT" "I" (.int 8) := Sta.start (eqv_i (Term.int_eval 8) (Cond.before_iff.mp (hsets _ (List.mem_of_getElem? (i := 18) rfl)))) (Or.inl (hsets _ (List.mem_of_getElem? (i := 17) rfl)))
  obtain ⟨n, o, h1, h2, h3, v, SFo, rfl, rfl, -, -, hq⟩ := con_law l s _ hw hEL zc SC hzc fm hfm SF1 SA SH SL i0 i1 i2 i3 i4 i5 s.heap (own_ext_rf _) p e ha hc hk s m _ below hf ((Spec.applies_iff_loose hf).mp happ).1 ⟨rfl, State.Warmed39.refl s, rfl, hCH, fun q hq => nomatch hq⟩ trivial
  exact ⟨n, _, h1, h2, h3, hpost _ _ _ _ _ _ ⟨Cond.after_iff.mpr rfl, Cond.after_iff.mpr (eq_i res_at (Term.int_eval (1)) rfl), trivial⟩ hq⟩
theorem main_1_1 : Claimed_1_1 := comes_1 fun _ _ _ _ _ _ h hF => ⟨h.1, hF⟩
theorem main_1_2 : Claimed_1_2 := comes_1 fun _ _ _ _ _ _ h hF => ⟨h.2.1, hF⟩
end Jvm.Pilot.@@N@@
namespace Jvm.Pilot.@@N@@
open Jvm Jvm.ClassFile Sem Op Lib Jvm.Free Jvm.Stand Jvm.Pilot.@@N@@.Jvm.D
/-! MADE BY PROGRAM (witnessworld.py) out of the Statement's table words and the real class files: 22 classes; the members and pool entries that the words name. The judged class is class 1, her method 1. -/
namespace start1
open Jvm.ClassFile
def u (s : String) : CpInfo := .utf8 (stringToUtf16 s)
/-- a pool by its gaps: so many unusable entries, then the entry; so many at the end -/
def gap : Nat → List CpInfo → List CpInfo
  | 0, r => r
  | n + 1, r => .unusable :: gap n r
def poolList (es : List (Nat × CpInfo)) (last : Nat) : List CpInfo := es.foldr (fun e r => gap e.1 (e.2 :: r)) (gap last [])
def pool (es : List (Nat × CpInfo)) (last : Nat) : Array CpInfo := ⟨poolList es last⟩
def fileOf (pool : Array CpInfo) (this : Nat) (attrs : Array Attribute := #[]) (ms : Array MethodInfo := #[]) (fl : Nat := 33) (sup : Nat := 0) (ifs : Array Nat := #[]) (fds : Array FieldInfo := #[]) : ClassFile where
  minorVersion := 0
  majorVersion := 65
  constantPool := pool
  accessFlags := fl
  thisClass := this
  superClass := sup
  interfaces := ifs
  fields := fds
  methods := ms
  attributes := attrs
def plain (name : String) (sup : Option ClassId) : Class where
  name := name
  kind := .ordinary
  loader := none
  accessFlags := 33
  super := sup
  interfaces := #[]
  cf := none
  fields := #[]
  methods := #[]
  instanceTypes := #[]
  staticTypes := #[]
  resolved := #[]
  callSites := []
  init := .initialized
  statics := none
  mirror := none

def pool0 : Array CpInfo := pool [(5, u "<init>"), (0, u "()V"), (1, .class_ 10), (1, u "java/lang/Object")] 113

def k0c0 : Code := { maxStack := 0, maxLocals := 1, code := object_method_1_code, exceptionTable := #[], attributes := #[] }
def k0m0 : Method := { name := "<init>", desc := "()V", sig := { parameters := [], returnType := none }, accessFlags := 1, code := some k0c0 }
/-- java/lang/Object -/
def k0 : Class := { plain "java/lang/Object" none with
  accessFlags := 33
  interfaces := #[]
  cf := some (fileOf pool0 8 #[] #[{ accessFlags := 1, nameIndex := 5, descriptorIndex := 6, attributes := #[] }] 33 0 #[] #[])
  fields := #[]
  methods := #[k0m0]
  instanceTypes := #[]
  staticTypes := #[]
  resolved := Array.replicate 124 none
  statics := none }

def pool1 : Array CpInfo := pool [(2, .class_ 4), (1, u "java/lang/Object"), (0, u "<init>"), (0, u "()V"), (0, .integer 2147483647), (0, .class_ 9), (0, u "java/lang/String"), (0, .methodref 8 11), (0, .nameAndType 5 12), (0, u "([C)V"), (0, .methodref 14 15), (0, .class_ 16), (0, .nameAndType 17 18), (0, u "com/example/unnest/unnest/value/JsonStringAsciiPinLaw"), (0, u "byteOk"), (0, u "(III)Z"), (0, .methodref 14 20), (0, .nameAndType 21 18), (0, u "charOk"), (0, .methodref 23 24), (0, .class_ 25), (0, .nameAndType 26 27), (0, u "com/example/unnest/unnest/value/JsonString"), (0, u "ofLatin1"), (0, u "([B)Lcom/example/unnest/unnest/value/JsonString;"), (0, .methodref 23 29), (0, .nameAndType 30 31), (0, u "ascii"), (0, u "()[B"), (0, .methodref 14 33), (0, .nameAndType 34 35), (0, u "sameByte"), (0, u "([BIII)Z"), (0, .methodref 23 37), (0, .nameAndType 38 39), (0, u "of"), (0, u "(Ljava/lang/String;)Lcom/example/unnest/unnest/value/JsonString;"), (0, .methodref 14 41), (0, .nameAndType 42 35), (0, u "charMatch"), (0, .methodref 23 44), (0, .nameAndType 5 45), (0, u "(Ljava/lang/String;)V"), (2, u "law"), (0, u "(IIIIII)Z")] 7

def k1m0 : Method := { name := "<init>", desc := "()V", sig := { parameters := [], returnType := none }, accessFlags := 1, code := none }
def k1c1 : Code := { maxStack := 4, maxLocals := 22, code := code, exceptionTable := #[], attributes := #[] }
def k1m1 : Method := { name := "law", desc := "(IIIIII)Z", sig := { parameters := [.int, .int, .int, .int, .int, .int], returnType := some .boolean }, accessFlags := 9, code := some k1c1 }
def k1c2 : Code := { maxStack := 2, maxLocals := 3, code := method_3_code, exceptionTable := #[], attributes := #[] }
def k1m2 : Method := { name := "byteOk", desc := "(III)Z", sig := { parameters := [.int, .int, .int], returnType := some .boolean }, accessFlags := 10, code := some k1c2 }
def k1c3 : Code := { maxStack := 2, maxLocals := 3, code := method_4_code, exceptionTable := #[], attributes := #[] }
def k1m3 : Method := { name := "charOk", desc := "(III)Z", sig := { parameters := [.int, .int, .int], returnType := some .boolean }, accessFlags := 10, code := some k1c3 }
def k1c4 : Code := { maxStack := 2, maxLocals := 4, code := method_5_code, exceptionTable := #[], attributes := #[] }
def k1m4 : Method := { name := "sameByte", desc := "([BIII)Z", sig := { parameters := [(.array .byte), .int, .int, .int], returnType := some .boolean }, accessFlags := 10, code := some k1c4 }
def k1c5 : Code := { maxStack := 3, maxLocals := 4, code := method_6_code, exceptionTable := #[], attributes := #[] }
def k1m5 : Method := { name := "charMatch", desc := "([BIII)Z", sig := { parameters := [(.array .byte), .int, .int, .int], returnType := some .boolean }, accessFlags := 10, code := some k1c5 }
/-- com/example/unnest/unnest/value/JsonStringAsciiPinLaw -/
def k1 : Class := { plain "com/example/unnest/unnest/value/JsonStringAsciiPinLaw" (some 0) with
  accessFlags := 49
  interfaces := #[]
  cf := some (fileOf pool1 14 #[] #[{ accessFlags := 1, nameIndex := 5, descriptorIndex := 6, attributes := #[] }, { accessFlags := 9, nameIndex := 48, descriptorIndex := 49, attributes := #[] }, { accessFlags := 10, nameIndex := 17, descriptorIndex := 18, attributes := #[] }, { accessFlags := 10, nameIndex := 21, descriptorIndex := 18, attributes := #[] }, { accessFlags := 10, nameIndex := 34, descriptorIndex := 35, attributes := #[] }, { accessFlags := 10, nameIndex := 42, descriptorIndex := 35, attributes := #[] }] 49 2 #[] #[])
  fields := #[]
  methods := #[k1m0, k1m1, k1m2, k1m3, k1m4, k1m5]
  instanceTypes := #[]
  staticTypes := #[]
  resolved := Array.replicate 57 none
  statics := none }

def pool2 : Array CpInfo := pool [(1, .class_ 2), (0, u "java/io/Serializable"), (0, .class_ 4), (0, u "java/lang/Object")] 2

/-- java/io/Serializable -/
def k2 : Class := { plain "java/io/Serializable" (some 0) with
  accessFlags := 1537
  interfaces := #[]
  cf := some (fileOf pool2 1 #[] #[] 1537 3 #[] #[])
  fields := #[]
  methods := #[]
  instanceTypes := #[]
  staticTypes := #[]
  resolved := Array.replicate 7 none
  statics := none }

def pool3 : Array CpInfo := pool [(1, .class_ 2), (0, u "java/lang/Comparable"), (0, .class_ 4), (0, u "java/lang/Object")] 7

/-- java/lang/Comparable -/
def k3 : Class := { plain "java/lang/Comparable" (some 0) with
  accessFlags := 1537
  interfaces := #[]
  cf := some (fileOf pool3 1 #[] #[] 1537 3 #[] #[])
  fields := #[]
  methods := #[]
  instanceTypes := #[]
  staticTypes := #[]
  resolved := Array.replicate 12 none
  statics := none }

def pool4 : Array CpInfo := pool [(2, .class_ 4), (1, u "java/lang/CharSequence"), (42, .class_ 48), (0, u "java/lang/CharSequence$1CodePointIterator"), (10, .class_ 60), (0, u "java/lang/CharSequence$1CharIterator"), (5, .class_ 67), (0, u "java/lang/Object")] 63

/-- java/lang/CharSequence -/
def k4 : Class := { plain "java/lang/CharSequence" (some 0) with
  accessFlags := 1537
  interfaces := #[]
  cf := some (fileOf pool4 2 #[.nestMembers #[47, 59]] #[] 1537 66 #[] #[])
  fields := #[]
  methods := #[]
  instanceTypes := #[]
  staticTypes := #[]
  resolved := Array.replicate 131 none
  statics := none }

def pool5 : Array CpInfo := pool [(1, .class_ 2), (0, u "java/lang/constant/Constable"), (0, .class_ 4), (0, u "java/lang/Object")] 6

/-- java/lang/constant/Constable -/
def k5 : Class := { plain "java/lang/constant/Constable" (some 0) with
  accessFlags := 1537
  interfaces := #[]
  cf := some (fileOf pool5 1 #[] #[] 1537 3 #[] #[])
  fields := #[]
  methods := #[]
  instanceTypes := #[]
  staticTypes := #[]
  resolved := Array.replicate 11 none
  statics := none }

def pool6 : Array CpInfo := pool [(1, .class_ 2), (0, u "java/lang/constant/ConstantDesc"), (0, .class_ 4), (0, u "java/lang/Object")] 32

/-- java/lang/constant/ConstantDesc -/
def k6 : Class := { plain "java/lang/constant/ConstantDesc" (some 0) with
  accessFlags := 1537
  interfaces := #[]
  cf := some (fileOf pool6 1 #[] #[] 1537 3 #[] #[])
  fields := #[]
  methods := #[]
  instanceTypes := #[]
  staticTypes := #[]
  resolved := Array.replicate 37 none
  statics := none }

def pool7 : Array CpInfo := pool [(1, .methodref 2 3), (0, .class_ 4), (0, .nameAndType 5 6), (0, u "java/lang/Object"), (0, u "<init>"), (0, u "()V"), (0, .string 8), (0, u ""), (0, .fieldref 10 11), (0, .class_ 12), (0, .nameAndType 13 14), (0, u "java/lang/String"), (0, u "value"), (0, u "[B"), (0, .fieldref 10 16), (0, .nameAndType 17 18), (0, u "coder"), (0, u "B"), (2, u "hash"), (0, u "I"), (2, u "hashIsZero"), (0, u "Z"), (0, .methodref 10 28), (0, .nameAndType 5 29), (0, u "([CIILjava/lang/Void;)V"), (8, .fieldref 10 39), (0, .nameAndType 40 26), (0, u "COMPACT_STRINGS"), (1, .class_ 44), (1, u "java/lang/StringUTF16"), (0, u "compress"), (1, .methodref 42 48), (0, .nameAndType 49 50), (0, u "coderFromArrayLen"), (0, u "([BI)B"), (56, .class_ 109), (1, u "java/lang/StringLatin1"), (32, u "()Z"), (34, .methodref 42 178), (0, .nameAndType 45 179), (0, u "([CII)[B"), (154, u "()I"), (0, .methodref 10 336), (0, .nameAndType 17 337), (0, u "()B"), (25, u "([BI)C"), (27, u "(II)V"), (35, u "(I)C"), (64, .methodref 10 493), (0, .nameAndType 494 142), (0, u "isLatin1"), (0, .methodref 107 496), (0, .nameAndType 497 363), (0, u "charAt"), (0, .methodref 42 496), (2, u "checkIndex"), (5, u "length"), (67, .class_ 576), (0, u "java/lang/CharSequence"), (22, u "CASE_INSENSITIVE_ORDER"), (0, u "Ljava/util/Comparator;"), (409, u "([C)V"), (42, .fieldref 1054 1055), (0, .class_ 1056), (0, .nameAndType 1057 1058), (0, u "jdk/internal/util/Preconditions"), (0, u "SIOOBE_FORMATTER"), (0, u "Ljava/util/function/BiFunction;"), (0, .methodref 1054 1060), (0, .nameAndType 501 1061), (0, u "(IILjava/util/function/BiFunction;)I"), (39, u "serialPersistentFields"), (0, u "[Ljava/io/ObjectStreamField;"), (0, .class_ 1104), (0, u "java/lang/String$CaseInsensitiveComparator"), (1, .class_ 1107), (0, u "java/io/Serializable"), (0, .class_ 1109), (0, u "java/lang/Comparable"), (0, .class_ 1111), (0, u "java/lang/constant/Constable"), (0, .class_ 1113), (0, u "java/lang/constant/ConstantDesc"), (2, u "serialVersionUID"), (0, u "J"), (3, u "REPL"), (0, u "C"), (2, u "LATIN1"), (1, u "UTF16")] 323

def k7m0 : Method := { name := "<init>", desc := "()V", sig := { parameters := [], returnType := none }, accessFlags := 1, code := none }
def k7c1 : Code := { maxStack := 5, maxLocals := 2, code := jdk_42_method_3_code, exceptionTable := #[], attributes := #[] }
def k7m1 : Method := { name := "<init>", desc := "([C)V", sig := { parameters := [(.array .char)], returnType := none }, accessFlags := 1, code := some k7c1 }
def k7c2 : Code := { maxStack := 2, maxLocals := 1, code := jdk_42_method_54_code, exceptionTable := #[], attributes := #[] }
def k7m2 : Method := { name := "length", desc := "()I", sig := { parameters := [], returnType := some .int }, accessFlags := 1, code := some k7c2 }
def k7c3 : Code := { maxStack := 2, maxLocals := 2, code := jdk_42_method_56_code, exceptionTable := #[], attributes := #[] }
def k7m3 : Method := { name := "charAt", desc := "(I)C", sig := { parameters := [.int], returnType := some .char }, accessFlags := 1, code := some k7c3 }
def k7c4 : Code := { maxStack := 4, maxLocals := 6, code := jdk_42_method_149_code, exceptionTable := #[], attributes := #[] }
def k7m4 : Method := { name := "<init>", desc := "([CIILjava/lang/Void;)V", sig := { parameters := [(.array .char), .int, .int, (.object "java/lang/Void")], returnType := none }, accessFlags := 2, code := some k7c4 }
def k7c5 : Code := { maxStack := 1, maxLocals := 1, code := jdk_42_method_152_code, exceptionTable := #[], attributes := #[] }
def k7m5 : Method := { name := "coder", desc := "()B", sig := { parameters := [], returnType := some .byte }, accessFlags := 0, code := some k7c5 }
def k7c6 : Code := { maxStack := 1, maxLocals := 1, code := jdk_42_method_154_code, exceptionTable := #[], attributes := #[] }
def k7m6 : Method := { name := "isLatin1", desc := "()Z", sig := { parameters := [], returnType := some .boolean }, accessFlags := 0, code := some k7c6 }
def k7c7 : Code := { maxStack := 3, maxLocals := 2, code := jdk_42_method_155_code, exceptionTable := #[], attributes := #[] }
def k7m7 : Method := { name := "checkIndex", desc := "(II)V", sig := { parameters := [.int, .int], returnType := none }, accessFlags := 8, code := some k7c7 }
/-- java/lang/String -/
def k7 : Class := { plain "java/lang/String" (some 0) with
  accessFlags := 49
  interfaces := #[2, 3, 4, 5, 6]
  cf := some (fileOf pool7 10 #[.nestMembers #[1103]] #[{ accessFlags := 1, nameIndex := 5, descriptorIndex := 6, attributes := #[] }, { accessFlags := 1, nameIndex := 5, descriptorIndex := 1010, attributes := #[] }, { accessFlags := 1, nameIndex := 507, descriptorIndex := 334, attributes := #[] }, { accessFlags := 1, nameIndex := 497, descriptorIndex := 427, attributes := #[] }, { accessFlags := 2, nameIndex := 5, descriptorIndex := 29, attributes := #[] }, { accessFlags := 0, nameIndex := 17, descriptorIndex := 337, attributes := #[] }, { accessFlags := 0, nameIndex := 494, descriptorIndex := 142, attributes := #[] }, { accessFlags := 8, nameIndex := 501, descriptorIndex := 391, attributes := #[] }] 49 2 #[1106, 1108, 575, 1110, 1112] #[{ accessFlags := 18, nameIndex := 13, descriptorIndex := 14, attributes := #[] }, { accessFlags := 18, nameIndex := 17, descriptorIndex := 18, attributes := #[] }, { accessFlags := 2, nameIndex := 21, descriptorIndex := 22, attributes := #[] }, { accessFlags := 2, nameIndex := 25, descriptorIndex := 26, attributes := #[] }, { accessFlags := 26, nameIndex := 1116, descriptorIndex := 1117, attributes := #[] }, { accessFlags := 24, nameIndex := 40, descriptorIndex := 26, attributes := #[] }, { accessFlags := 26, nameIndex := 1101, descriptorIndex := 1102, attributes := #[] }, { accessFlags := 26, nameIndex := 1121, descriptorIndex := 1122, attributes := #[] }, { accessFlags := 25, nameIndex := 599, descriptorIndex := 600, attributes := #[] }, { accessFlags := 24, nameIndex := 1125, descriptorIndex := 18, attributes := #[] }, { accessFlags := 24, nameIndex := 1127, descriptorIndex := 18, attributes := #[] }])
  fields := #[{ name := "value", type := (.array .byte), accessFlags := 18, slot := 0, constantValue := 0 }, { name := "coder", type := .byte, accessFlags := 18, slot := 1, constantValue := 0 }, { name := "hash", type := .int, accessFlags := 2, slot := 2, constantValue := 0 }, { name := "hashIsZero", type := .boolean, accessFlags := 2, slot := 3, constantValue := 0 }, { name := "serialVersionUID", type := .long, accessFlags := 26, slot := 0, constantValue := 0 }, { name := "COMPACT_STRINGS", type := .boolean, accessFlags := 24, slot := 1, constantValue := 0 }, { name := "serialPersistentFields", type := (.array (.object "java/io/ObjectStreamField")), accessFlags := 26, slot := 2, constantValue := 0 }, { name := "REPL", type := .char, accessFlags := 26, slot := 3, constantValue := 0 }, { name := "CASE_INSENSITIVE_ORDER", type := (.object "java/util/Comparator"), accessFlags := 25, slot := 4, constantValue := 0 }, { name := "LATIN1", type := .byte, accessFlags := 24, slot := 5, constantValue := 0 }, { name := "UTF16", type := .byte, accessFlags := 24, slot := 6, constantValue := 0 }]
  methods := #[k7m0, k7m1, k7m2, k7m3, k7m4, k7m5, k7m6, k7m7]
  instanceTypes := #[(.array .byte), .byte, .int, .boolean]
  staticTypes := #[.long, .boolean, (.array (.object "java/io/ObjectStreamField")), .char, (.object "java/util/Comparator"), .byte, .byte]
  resolved := Array.replicate 1451 none
  statics := some 0 }

def pool8 : Array CpInfo := pool [(3, .class_ 4), (0, u "java/lang/String"), (1, .class_ 8), (1, u "java/lang/Object"), (0, u "<init>"), (0, u "()V"), (0, .methodref 12 13), (0, .class_ 14), (0, .nameAndType 15 16), (0, u "java/lang/StringUTF16"), (0, u "newBytesLength"), (0, u "(I)I"), (3, .integer 1073741823), (23, .fieldref 12 45), (0, .nameAndType 46 47), (0, u "$assertionsDisabled"), (0, u "Z"), (0, .methodref 12 49), (0, .nameAndType 50 51), (0, u "length"), (0, u "([B)I"), (7, .fieldref 12 60), (0, .nameAndType 61 62), (0, u "HI_BYTE_SHIFT"), (0, u "I"), (0, .fieldref 12 64), (0, .nameAndType 65 62), (0, u "LO_BYTE_SHIFT"), (1, .methodref 12 68), (0, .nameAndType 69 70), (0, u "checkIndex"), (0, u "(I[B)V"), (0, .methodref 12 72), (0, .nameAndType 73 74), (0, u "getChar"), (0, u "([BI)C"), (32, .methodref 12 108), (0, .nameAndType 109 110), (0, u "newBytesFor"), (0, u "(I)[B"), (0, .methodref 12 112), (0, .nameAndType 113 114), (0, u "putChar"), (0, u "([BII)V"), (0, .methodref 12 116), (0, .nameAndType 117 118), (0, u "compress"), (0, u "([CI[BII)I"), (0, .methodref 12 120), (0, .nameAndType 121 122), (0, u "toBytes"), (0, u "([CII)[B"), (138, u "coderFromArrayLen"), (0, u "([BI)B"), (106, .class_ 371), (1, u "java/lang/StringUTF16$LinesSpliterator"), (20, u "charAt"), (21, .methodref 3 415), (0, .nameAndType 69 416), (0, u "(II)V"), (13, u "MAX_LENGTH"), (196, .class_ 628), (0, u "java/lang/StringUTF16$CodePointsSpliterator"), (0, .class_ 630), (0, u "java/lang/StringUTF16$CharsSpliterator")] 4

def k8m0 : Method := { name := "<init>", desc := "()V", sig := { parameters := [], returnType := none }, accessFlags := 0, code := none }
def k8c1 : Code := { maxStack := 1, maxLocals := 1, code := jdk_52_method_2_code, exceptionTable := #[], attributes := #[] }
def k8m1 : Method := { name := "newBytesFor", desc := "(I)[B", sig := { parameters := [.int], returnType := some (.array .byte) }, accessFlags := 9, code := some k8c1 }
def k8c2 : Code := { maxStack := 4, maxLocals := 1, code := jdk_52_method_3_code, exceptionTable := #[], attributes := #[] }
def k8m2 : Method := { name := "newBytesLength", desc := "(I)I", sig := { parameters := [.int], returnType := some .int }, accessFlags := 9, code := some k8c2 }
def k8c3 : Code := { maxStack := 4, maxLocals := 3, code := jdk_52_method_4_code, exceptionTable := #[], attributes := #[] }
def k8m3 : Method := { name := "putChar", desc := "([BII)V", sig := { parameters := [(.array .byte), .int, .int], returnType := none }, accessFlags := 8, code := some k8c3 }
def k8c4 : Code := { maxStack := 3, maxLocals := 2, code := jdk_52_method_5_code, exceptionTable := #[], attributes := #[] }
def k8m4 : Method := { name := "getChar", desc := "([BI)C", sig := { parameters := [(.array .byte), .int], returnType := some .char }, accessFlags := 8, code := some k8c4 }
def k8c5 : Code := { maxStack := 2, maxLocals := 1, code := jdk_52_method_6_code, exceptionTable := #[], attributes := #[] }
def k8m5 : Method := { name := "length", desc := "([B)I", sig := { parameters := [(.array .byte)], returnType := some .int }, accessFlags := 9, code := some k8c5 }
def k8c6 : Code := { maxStack := 4, maxLocals := 5, code := jdk_52_method_14_code, exceptionTable := #[], attributes := #[] }
def k8m6 : Method := { name := "toBytes", desc := "([CII)[B", sig := { parameters := [(.array .char), .int, .int], returnType := some (.array .byte) }, accessFlags := 9, code := some k8c6 }
def k8c7 : Code := { maxStack := 2, maxLocals := 2, code := jdk_52_method_15_code, exceptionTable := #[], attributes := #[] }
def k8m7 : Method := { name := "coderFromArrayLen", desc := "([BI)B", sig := { parameters := [(.array .byte), .int], returnType := some .byte }, accessFlags := 8, code := some k8c7 }
def k8c8 : Code := { maxStack := 5, maxLocals := 6, code := jdk_52_method_16_code, exceptionTable := #[], attributes := #[] }
def k8m8 : Method := { name := "compress", desc := "([CII)[B", sig := { parameters := [(.array .char), .int, .int], returnType := some (.array .byte) }, accessFlags := 9, code := some k8c8 }
def k8c9 : Code := { maxStack := 3, maxLocals := 7, code := jdk_52_method_21_code, exceptionTable := #[], attributes := #[] }
def k8m9 : Method := { name := "compress", desc := "([CI[BII)I", sig := { parameters := [(.array .char), .int, (.array .byte), .int, .int], returnType := some .int }, accessFlags := 9, code := some k8c9 }
def k8c10 : Code := { maxStack := 2, maxLocals := 2, code := jdk_52_method_83_code, exceptionTable := #[], attributes := #[] }
def k8m10 : Method := { name := "charAt", desc := "([BI)C", sig := { parameters := [(.array .byte), .int], returnType := some .char }, accessFlags := 9, code := some k8c10 }
def k8c11 : Code := { maxStack := 2, maxLocals := 2, code := jdk_52_method_91_code, exceptionTable := #[], attributes := #[] }
def k8m11 : Method := { name := "checkIndex", desc := "(I[B)V", sig := { parameters := [.int, (.array .byte)], returnType := none }, accessFlags := 9, code := some k8c11 }
/-- java/lang/StringUTF16 -/
def k8 : Class := { plain "java/lang/StringUTF16" (some 0) with
  accessFlags := 48
  interfaces := #[]
  cf := some (fileOf pool8 12 #[.nestMembers #[627, 629, 369]] #[{ accessFlags := 0, nameIndex := 9, descriptorIndex := 10, attributes := #[] }, { accessFlags := 9, nameIndex := 109, descriptorIndex := 110, attributes := #[] }, { accessFlags := 9, nameIndex := 15, descriptorIndex := 16, attributes := #[] }, { accessFlags := 8, nameIndex := 113, descriptorIndex := 114, attributes := #[] }, { accessFlags := 8, nameIndex := 73, descriptorIndex := 74, attributes := #[] }, { accessFlags := 9, nameIndex := 50, descriptorIndex := 51, attributes := #[] }, { accessFlags := 9, nameIndex := 121, descriptorIndex := 122, attributes := #[] }, { accessFlags := 8, nameIndex := 261, descriptorIndex := 262, attributes := #[] }, { accessFlags := 9, nameIndex := 117, descriptorIndex := 122, attributes := #[] }, { accessFlags := 9, nameIndex := 117, descriptorIndex := 118, attributes := #[] }, { accessFlags := 9, nameIndex := 392, descriptorIndex := 74, attributes := #[] }, { accessFlags := 9, nameIndex := 69, descriptorIndex := 70, attributes := #[] }] 48 6 #[] #[{ accessFlags := 26, nameIndex := 61, descriptorIndex := 62, attributes := #[] }, { accessFlags := 26, nameIndex := 65, descriptorIndex := 62, attributes := #[] }, { accessFlags := 24, nameIndex := 430, descriptorIndex := 62, attributes := #[] }, { accessFlags := 4120, nameIndex := 46, descriptorIndex := 47, attributes := #[] }])
  fields := #[{ name := "HI_BYTE_SHIFT", type := .int, accessFlags := 26, slot := 0, constantValue := 0 }, { name := "LO_BYTE_SHIFT", type := .int, accessFlags := 26, slot := 1, constantValue := 0 }, { name := "MAX_LENGTH", type := .int, accessFlags := 24, slot := 2, constantValue := 0 }, { name := "$assertionsDisabled", type := .boolean, accessFlags := 4120, slot := 3, constantValue := 0 }]
  methods := #[k8m0, k8m1, k8m2, k8m3, k8m4, k8m5, k8m6, k8m7, k8m8, k8m9, k8m10, k8m11]
  instanceTypes := #[]
  staticTypes := #[.int, .int, .int, .boolean]
  resolved := Array.replicate 635 none
  statics := some 1 }

def pool9 : Array CpInfo := pool [(1, .methodref 2 3), (0, .class_ 4), (0, .nameAndType 5 6), (0, u "java/lang/Object"), (0, u "<init>"), (0, u "()V"), (6, .class_ 14), (0, u "com/example/unnest/unnest/value/Value")] 15

def k9c0 : Code := { maxStack := 1, maxLocals := 1, code := prog_99_method_1_code, exceptionTable := #[], attributes := #[] }
def k9m0 : Method := { name := "<init>", desc := "()V", sig := { parameters := [], returnType := none }, accessFlags := 0, code := some k9c0 }
/-- com/example/unnest/unnest/value/Value -/
def k9 : Class := { plain "com/example/unnest/unnest/value/Value" (some 0) with
  accessFlags := 1057
  interfaces := #[]
  cf := some (fileOf pool9 13 #[] #[{ accessFlags := 0, nameIndex := 5, descriptorIndex := 6, attributes := #[] }] 1057 2 #[] #[])
  fields := #[]
  methods := #[k9m0]
  instanceTypes := #[]
  staticTypes := #[]
  resolved := Array.replicate 30 none
  statics := none }

def pool10 : Array CpInfo := pool [(1, .methodref 2 3), (0, .class_ 4), (0, .nameAndType 5 6), (0, u "com/example/unnest/unnest/value/Value"), (0, u "<init>"), (0, u "()V"), (1, .class_ 10), (1, u "com/example/unnest/unnest/value/JsonValue"), (13, u "TOTAL_ORDER"), (0, u "Ljava/util/Comparator;")] 23

def k10c0 : Code := { maxStack := 1, maxLocals := 1, code := prog_91_method_1_code, exceptionTable := #[], attributes := #[] }
def k10m0 : Method := { name := "<init>", desc := "()V", sig := { parameters := [], returnType := none }, accessFlags := 0, code := some k10c0 }
/-- com/example/unnest/unnest/value/JsonValue -/
def k10 : Class := { plain "com/example/unnest/unnest/value/JsonValue" (some 9) with
  accessFlags := 1057
  interfaces := #[]
  cf := some (fileOf pool10 8 #[] #[{ accessFlags := 0, nameIndex := 5, descriptorIndex := 6, attributes := #[] }] 1057 2 #[] #[{ accessFlags := 25, nameIndex := 24, descriptorIndex := 25, attributes := #[] }])
  fields := #[{ name := "TOTAL_ORDER", type := (.object "java/util/Comparator"), accessFlags := 25, slot := 0, constantValue := 0 }]
  methods := #[k10m0]
  instanceTypes := #[]
  staticTypes := #[(.object "java/util/Comparator")]
  resolved := Array.replicate 49 none
  statics := none }

def pool11 : Array CpInfo := pool [(1, .methodref 2 3), (0, .class_ 4), (0, .nameAndType 5 6), (0, u "com/example/unnest/unnest/value/JsonValue"), (0, u "<init>"), (0, u "()V"), (0, .fieldref 8 9), (0, .class_ 10), (0, .nameAndType 11 12), (0, u "com/example/unnest/unnest/value/JsonString"), (0, u "latin1"), (0, u "[B"), (0, .fieldref 8 14), (0, .nameAndType 15 16), (0, u "value"), (0, u "Ljava/lang/String;"), (0, .methodref 18 19), (0, .class_ 20), (0, .nameAndType 21 22), (0, u "java/lang/String"), (0, u "length"), (0, u "()I"), (0, .methodref 18 24), (0, .nameAndType 25 26), (0, u "charAt"), (0, u "(I)C"), (0, .methodref 8 28), (0, .nameAndType 5 29), (0, u "(Ljava/lang/String;)V"), (0, .methodref 8 31), (0, .nameAndType 5 32), (0, u "([BLjava/lang/String;)V"), (25, u "EIGHT_BYTES"), (0, u "Ljava/lang/invoke/VarHandle;"), (23, u "hash"), (0, u "I"), (40, u "CODE_POINT_ORDER"), (0, u "Ljava/util/Comparator;"), (18, u "of"), (0, u "(Ljava/lang/String;)Lcom/example/unnest/unnest/value/JsonString;"), (2, u "ofLatin1"), (0, u "([B)Lcom/example/unnest/unnest/value/JsonString;"), (0, u "ascii"), (0, u "()[B")] 25

def k11c0 : Code := { maxStack := 2, maxLocals := 2, code := prog_88_method_1_code, exceptionTable := #[], attributes := #[] }
def k11m0 : Method := { name := "<init>", desc := "(Ljava/lang/String;)V", sig := { parameters := [(.object "java/lang/String")], returnType := none }, accessFlags := 1, code := some k11c0 }
def k11c1 : Code := { maxStack := 2, maxLocals := 3, code := prog_88_method_2_code, exceptionTable := #[], attributes := #[] }
def k11m1 : Method := { name := "<init>", desc := "([BLjava/lang/String;)V", sig := { parameters := [(.array .byte), (.object "java/lang/String")], returnType := none }, accessFlags := 2, code := some k11c1 }
def k11c2 : Code := { maxStack := 4, maxLocals := 4, code := prog_88_method_3_code, exceptionTable := #[], attributes := #[] }
def k11m2 : Method := { name := "of", desc := "(Ljava/lang/String;)Lcom/example/unnest/unnest/value/JsonString;", sig := { parameters := [(.object "java/lang/String")], returnType := some (.object "com/example/unnest/unnest/value/JsonString") }, accessFlags := 9, code := some k11c2 }
def k11c3 : Code := { maxStack := 4, maxLocals := 1, code := prog_88_method_4_code, exceptionTable := #[], attributes := #[] }
def k11m3 : Method := { name := "ofLatin1", desc := "([B)Lcom/example/unnest/unnest/value/JsonString;", sig := { parameters := [(.array .byte)], returnType := some (.object "com/example/unnest/unnest/value/JsonString") }, accessFlags := 9, code := some k11c3 }
def k11c4 : Code := { maxStack := 2, maxLocals := 3, code := prog_88_method_6_code, exceptionTable := #[], attributes := #[] }
def k11m4 : Method := { name := "ascii", desc := "()[B", sig := { parameters := [], returnType := some (.array .byte) }, accessFlags := 1, code := some k11c4 }
/-- com/example/unnest/unnest/value/JsonString -/
def k11 : Class := { plain "com/example/unnest/unnest/value/JsonString" (some 10) with
  accessFlags := 49
  interfaces := #[]
  cf := some (fileOf pool11 8 #[] #[{ accessFlags := 1, nameIndex := 5, descriptorIndex := 29, attributes := #[] }, { accessFlags := 2, nameIndex := 5, descriptorIndex := 32, attributes := #[] }, { accessFlags := 9, nameIndex := 145, descriptorIndex := 146, attributes := #[] }, { accessFlags := 9, nameIndex := 149, descriptorIndex := 150, attributes := #[] }, { accessFlags := 1, nameIndex := 151, descriptorIndex := 152, attributes := #[] }] 49 2 #[] #[{ accessFlags := 25, nameIndex := 125, descriptorIndex := 126, attributes := #[] }, { accessFlags := 26, nameIndex := 58, descriptorIndex := 59, attributes := #[] }, { accessFlags := 18, nameIndex := 11, descriptorIndex := 12, attributes := #[] }, { accessFlags := 2, nameIndex := 15, descriptorIndex := 16, attributes := #[] }, { accessFlags := 2, nameIndex := 83, descriptorIndex := 84, attributes := #[] }])
  fields := #[{ name := "CODE_POINT_ORDER", type := (.object "java/util/Comparator"), accessFlags := 25, slot := 0, constantValue := 0 }, { name := "EIGHT_BYTES", type := (.object "java/lang/invoke/VarHandle"), accessFlags := 26, slot := 1, constantValue := 0 }, { name := "latin1", type := (.array .byte), accessFlags := 18, slot := 0, constantValue := 0 }, { name := "value", type := (.object "java/lang/String"), accessFlags := 2, slot := 1, constantValue := 0 }, { name := "hash", type := .int, accessFlags := 2, slot := 2, constantValue := 0 }]
  methods := #[k11m0, k11m1, k11m2, k11m3, k11m4]
  instanceTypes := #[(.array .byte), (.object "java/lang/String"), .int]
  staticTypes := #[(.object "java/util/Comparator"), (.object "java/lang/invoke/VarHandle")]
  resolved := Array.replicate 178 none
  statics := none }

def pool12 : Array CpInfo := pool [(1, .class_ 2), (0, u "java/lang/String"), (1, .class_ 6), (1, u "java/lang/Object"), (0, u "<init>"), (0, u "()V"), (0, .methodref 1 10), (0, .nameAndType 11 12), (0, u "checkIndex"), (0, u "(II)V"), (1, .class_ 16), (1, u "java/lang/StringLatin1"), (36, u "([BI)C"), (67, u "$assertionsDisabled"), (0, u "Z"), (98, .class_ 223), (1, u "java/lang/StringLatin1$LinesSpliterator"), (28, u "charAt"), (137, .class_ 391), (0, u "java/lang/StringLatin1$CharsSpliterator")] 3

def k12m0 : Method := { name := "<init>", desc := "()V", sig := { parameters := [], returnType := none }, accessFlags := 0, code := none }
def k12c1 : Code := { maxStack := 2, maxLocals := 2, code := jdk_43_method_2_code, exceptionTable := #[], attributes := #[] }
def k12m1 : Method := { name := "charAt", desc := "([BI)C", sig := { parameters := [(.array .byte), .int], returnType := some .char }, accessFlags := 9, code := some k12c1 }
/-- java/lang/StringLatin1 -/
def k12 : Class := { plain "java/lang/StringLatin1" (some 0) with
  accessFlags := 48
  interfaces := #[]
  cf := some (fileOf pool12 14 #[.nestMembers #[390, 221]] #[{ accessFlags := 0, nameIndex := 7, descriptorIndex := 8, attributes := #[] }, { accessFlags := 9, nameIndex := 252, descriptorIndex := 53, attributes := #[] }] 48 4 #[] #[{ accessFlags := 4120, nameIndex := 121, descriptorIndex := 122, attributes := #[] }])
  fields := #[{ name := "$assertionsDisabled", type := .boolean, accessFlags := 4120, slot := 0, constantValue := 0 }]
  methods := #[k12m0, k12m1]
  instanceTypes := #[]
  staticTypes := #[.boolean]
  resolved := Array.replicate 395 none
  statics := none }

def pool13 : Array CpInfo := pool [(2, .class_ 4), (1, u "java/lang/Object"), (0, u "<init>"), (0, u "()V"), (17, .class_ 26), (1, u "jdk/internal/util/Preconditions"), (6, u "checkIndex"), (21, .class_ 56), (0, u "jdk/internal/util/Preconditions$4"), (57, .class_ 115), (0, u "jdk/internal/util/Preconditions$1"), (7, u "SIOOBE_FORMATTER"), (0, u "Ljava/util/function/BiFunction;"), (0, .class_ 126), (0, u "jdk/internal/util/Preconditions$2"), (3, u "AIOOBE_FORMATTER"), (0, .class_ 132), (0, u "jdk/internal/util/Preconditions$3"), (3, u "IOOBE_FORMATTER"), (41, u "(IILjava/util/function/BiFunction;)I")] 15

def k13m0 : Method := { name := "<init>", desc := "()V", sig := { parameters := [], returnType := none }, accessFlags := 1, code := none }
def k13c1 : Code := { maxStack := 3, maxLocals := 3, code := jdk_41_method_11_code, exceptionTable := #[], attributes := #[] }
def k13m1 : Method := { name := "checkIndex", desc := "(IILjava/util/function/BiFunction;)I", sig := { parameters := [.int, .int, (.object "java/util/function/BiFunction")], returnType := some .int }, accessFlags := 9, code := some k13c1 }
/-- jdk/internal/util/Preconditions -/
def k13 : Class := { plain "jdk/internal/util/Preconditions" (some 0) with
  accessFlags := 33
  interfaces := #[]
  cf := some (fileOf pool13 24 #[.nestMembers #[55, 131, 125, 114]] #[{ accessFlags := 1, nameIndex := 5, descriptorIndex := 6, attributes := #[] }, { accessFlags := 9, nameIndex := 33, descriptorIndex := 178, attributes := #[] }] 33 2 #[] #[{ accessFlags := 25, nameIndex := 123, descriptorIndex := 124, attributes := #[] }, { accessFlags := 25, nameIndex := 130, descriptorIndex := 124, attributes := #[] }, { accessFlags := 25, nameIndex := 136, descriptorIndex := 124, attributes := #[] }])
  fields := #[{ name := "SIOOBE_FORMATTER", type := (.object "java/util/function/BiFunction"), accessFlags := 25, slot := 0, constantValue := 0 }, { name := "AIOOBE_FORMATTER", type := (.object "java/util/function/BiFunction"), accessFlags := 25, slot := 1, constantValue := 0 }, { name := "IOOBE_FORMATTER", type := (.object "java/util/function/BiFunction"), accessFlags := 25, slot := 2, constantValue := 0 }]
  methods := #[k13m0, k13m1]
  instanceTypes := #[]
  staticTypes := #[(.object "java/util/function/BiFunction"), (.object "java/util/function/BiFunction"), (.object "java/util/function/BiFunction")]
  resolved := Array.replicate 194 none
  statics := some 2 }

def pool14 : Array CpInfo := pool [(9, u "<init>"), (6, .class_ 18), (1, u "java/lang/Object"), (0, u "()V"), (1, .class_ 23), (1, u "jdk/internal/util/ArraysSupport"), (0, u "LOG2_ARRAY_LONG_INDEX_SCALE"), (0, u "I"), (2, u "U"), (0, u "Ljdk/internal/misc/Unsafe;"), (8, u "BIG_ENDIAN"), (0, u "Z"), (8, u "LOG2_BYTE_BIT_SIZE"), (4, u "LOG2_ARRAY_INT_INDEX_SCALE"), (54, u "JLA"), (0, u "Ljdk/internal/access/JavaLangAccess;"), (11, u "LOG2_ARRAY_BOOLEAN_INDEX_SCALE"), (9, u "LOG2_ARRAY_BYTE_INDEX_SCALE"), (5, u "LOG2_ARRAY_CHAR_INDEX_SCALE"), (5, u "LOG2_ARRAY_SHORT_INDEX_SCALE"), (18, u "LOG2_ARRAY_FLOAT_INDEX_SCALE"), (24, u "LOG2_ARRAY_DOUBLE_INDEX_SCALE"), (89, u "T_BOOLEAN"), (2, u "T_CHAR"), (1, u "T_FLOAT"), (1, u "T_DOUBLE"), (1, u "T_BYTE"), (1, u "T_SHORT"), (1, u "T_INT"), (1, u "T_LONG"), (1, u "SOFT_MAX_ARRAY_LENGTH")] 83

def k14m0 : Method := { name := "<init>", desc := "()V", sig := { parameters := [], returnType := none }, accessFlags := 2, code := none }
/-- jdk/internal/util/ArraysSupport -/
def k14 : Class := { plain "jdk/internal/util/ArraysSupport" (some 0) with
  accessFlags := 33
  interfaces := #[]
  cf := some (fileOf pool14 21 #[] #[{ accessFlags := 2, nameIndex := 9, descriptorIndex := 19, attributes := #[] }] 33 16 #[] #[{ accessFlags := 24, nameIndex := 28, descriptorIndex := 29, attributes := #[] }, { accessFlags := 26, nameIndex := 38, descriptorIndex := 39, attributes := #[] }, { accessFlags := 25, nameIndex := 121, descriptorIndex := 25, attributes := #[] }, { accessFlags := 25, nameIndex := 131, descriptorIndex := 25, attributes := #[] }, { accessFlags := 25, nameIndex := 137, descriptorIndex := 25, attributes := #[] }, { accessFlags := 25, nameIndex := 143, descriptorIndex := 25, attributes := #[] }, { accessFlags := 25, nameIndex := 53, descriptorIndex := 25, attributes := #[] }, { accessFlags := 25, nameIndex := 24, descriptorIndex := 25, attributes := #[] }, { accessFlags := 25, nameIndex := 162, descriptorIndex := 25, attributes := #[] }, { accessFlags := 25, nameIndex := 187, descriptorIndex := 25, attributes := #[] }, { accessFlags := 26, nameIndex := 48, descriptorIndex := 25, attributes := #[] }, { accessFlags := 25, nameIndex := 277, descriptorIndex := 25, attributes := #[] }, { accessFlags := 25, nameIndex := 280, descriptorIndex := 25, attributes := #[] }, { accessFlags := 25, nameIndex := 282, descriptorIndex := 25, attributes := #[] }, { accessFlags := 25, nameIndex := 284, descriptorIndex := 25, attributes := #[] }, { accessFlags := 25, nameIndex := 286, descriptorIndex := 25, attributes := #[] }, { accessFlags := 25, nameIndex := 288, descriptorIndex := 25, attributes := #[] }, { accessFlags := 25, nameIndex := 290, descriptorIndex := 25, attributes := #[] }, { accessFlags := 25, nameIndex := 292, descriptorIndex := 25, attributes := #[] }, { accessFlags := 26, nameIndex := 108, descriptorIndex := 109, attributes := #[] }, { accessFlags := 25, nameIndex := 294, descriptorIndex := 25, attributes := #[] }])
  fields := #[{ name := "U", type := (.object "jdk/internal/misc/Unsafe"), accessFlags := 24, slot := 0, constantValue := 0 }, { name := "BIG_ENDIAN", type := .boolean, accessFlags := 26, slot := 1, constantValue := 0 }, { name := "LOG2_ARRAY_BOOLEAN_INDEX_SCALE", type := .int, accessFlags := 25, slot := 2, constantValue := 0 }, { name := "LOG2_ARRAY_BYTE_INDEX_SCALE", type := .int, accessFlags := 25, slot := 3, constantValue := 0 }, { name := "LOG2_ARRAY_CHAR_INDEX_SCALE", type := .int, accessFlags := 25, slot := 4, constantValue := 0 }, { name := "LOG2_ARRAY_SHORT_INDEX_SCALE", type := .int, accessFlags := 25, slot := 5, constantValue := 0 }, { name := "LOG2_ARRAY_INT_INDEX_SCALE", type := .int, accessFlags := 25, slot := 6, constantValue := 0 }, { name := "LOG2_ARRAY_LONG_INDEX_SCALE", type := .int, accessFlags := 25, slot := 7, constantValue := 0 }, { name := "LOG2_ARRAY_FLOAT_INDEX_SCALE", type := .int, accessFlags := 25, slot := 8, constantValue := 0 }, { name := "LOG2_ARRAY_DOUBLE_INDEX_SCALE", type := .int, accessFlags := 25, slot := 9, constantValue := 0 }, { name := "LOG2_BYTE_BIT_SIZE", type := .int, accessFlags := 26, slot := 10, constantValue := 0 }, { name := "T_BOOLEAN", type := .int, accessFlags := 25, slot := 11, constantValue := 0 }, { name := "T_CHAR", type := .int, accessFlags := 25, slot := 12, constantValue := 0 }, { name := "T_FLOAT", type := .int, accessFlags := 25, slot := 13, constantValue := 0 }, { name := "T_DOUBLE", type := .int, accessFlags := 25, slot := 14, constantValue := 0 }, { name := "T_BYTE", type := .int, accessFlags := 25, slot := 15, constantValue := 0 }, { name := "T_SHORT", type := .int, accessFlags := 25, slot := 16, constantValue := 0 }, { name := "T_INT", type := .int, accessFlags := 25, slot := 17, constantValue := 0 }, { name := "T_LONG", type := .int, accessFlags := 25, slot := 18, constantValue := 0 }, { name := "JLA", type := (.object "jdk/internal/access/JavaLangAccess"), accessFlags := 26, slot := 19, constantValue := 0 }, { name := "SOFT_MAX_ARRAY_LENGTH", type := .int, accessFlags := 25, slot := 20, constantValue := 0 }]
  methods := #[k14m0]
  instanceTypes := #[]
  staticTypes := #[(.object "jdk/internal/misc/Unsafe"), .boolean, .int, .int, .int, .int, .int, .int, .int, .int, .int, .int, .int, .int, .int, .int, .int, .int, .int, (.object "jdk/internal/access/JavaLangAccess"), .int]
  resolved := Array.replicate 378 none
  statics := none }

def pool15 : Array CpInfo := pool [(1, u "java/lang/Cloneable"), (0, .class_ 1), (0, u "java/lang/Object"), (0, .class_ 3)] 3

/-- java/lang/Cloneable -/
def k15 : Class := { plain "java/lang/Cloneable" (some 0) with
  accessFlags := 1537
  interfaces := #[]
  cf := some (fileOf pool15 2 #[] #[] 1537 4 #[] #[])
  fields := #[]
  methods := #[]
  instanceTypes := #[]
  staticTypes := #[]
  resolved := Array.replicate 8 none
  statics := none }

/-- the primitive byte -/
def k16 : Class := { plain "byte" none with kind := .primitive 'B', accessFlags := 0x411 }
/-- [B -/
def k17 : Class := { plain "[B" (some 0) with kind := .array 16 .byte, interfaces := #[15, 2], accessFlags := 1041 }

/-- the primitive char -/
def k18 : Class := { plain "char" none with kind := .primitive 'C', accessFlags := 0x411 }
/-- [C -/
def k19 : Class := { plain "[C" (some 0) with kind := .array 18 .char, interfaces := #[15, 2], accessFlags := 1041 }

/-- the primitive int -/
def k20 : Class := { plain "int" none with kind := .primitive 'I', accessFlags := 0x411 }
/-- [I -/
def k21 : Class := { plain "[I" (some 0) with kind := .array 20 .int, interfaces := #[15, 2], accessFlags := 1041 }

def heap : Heap := #[{ cls := 7, slots := #[.long 0, .int 1, .null, .int 0, .null, .int 0, .int 0], vm := .statics 7 },
  { cls := 8, slots := #[.int 0, .int 8, .int 0, .int 1], vm := .statics 8 },
  { cls := 13, slots := #[.null, .null, .null], vm := .statics 13 }]
def classes : Array Class := #[k0, k1, k2, k3, k4, k5, k6, k7, k8, k9, k10, k11, k12, k13, k14, k15, k16, k17, k18, k19, k20, k21]
def interned : List (Array UInt16 × Addr) := []
def slotsUsed : Nat := 14
def theMethod : MethodId := ⟨1, 1⟩
def args0 : Array Value := #[.int 5, .int 5, .int 5, .int 5, .int 5, .int 5]
def aboutOver (below : List Frame) : State where
  vm := { classes := classes, interned := interned.toArray }
  heap := heap
  slotsUsed := slotsUsed
  threads := #[{ frames := .invoking theMethod args0 :: below }]
def below0 : List Frame := [.native { method := ⟨0, 0⟩, args := #[] }]
def about1 : State := aboutOver below0
def p0 : Program := .bare "" "" ""
def e0 : Env := launch0.env 0 0 0
theorem w_frames : about1.frames = Frame.invoking theMethod args0 :: below0 := rfl
set_option maxRecDepth 65536 in
theorem w_args : argsFit about1.vm theMethod args0 = true := by decide +kernel
set_option maxRecDepth 65536 in
theorem w_heap : heapFits about1 = true := by decide +kernel
set_option maxRecDepth 65536 in
theorem w_runnable : about1.curStatus? = some .runnable := by decide +kernel
set_option maxRecDepth 65536 in
theorem w_alone : about1.alone = true := by decide +kernel
set_option maxRecDepth 65536 in
theorem w_named : about1.methodNamed? x = some theMethod := by decide +kernel
set_option maxRecDepth 65536 in
theorem w_hears : about1.hears theMethod below0 = true := by decide +kernel
set_option maxRecDepth 65536 in
theorem w_ripe : about1.ripe theMethod args0 below0 = true := by decide +kernel
theorem w_running : about1.status = .running := rfl
set_option maxRecDepth 65536 in
theorem w_room : about1.hasRoom e0.platform room_1 = true :=
  launch0.hasRoom_least _ room_1 (by decide +kernel) (by decide +kernel) (by decide +kernel) (by decide +kernel) (by decide +kernel) (by decide +kernel)
theorem allAtoms_all (ts : List Jvm.Cond) (a : Array Jvm.Value) (st : Jvm.State) : (allAtoms ts).before a st = ts.all (fun c => c.before a st) := by
  induction ts with
  | nil => rfl
  | cons c t ih =>
    show (Jvm.Cond.and c (allAtoms t)).before a st = _
    rw [Jvm.Cond.before_and, ih, List.all_cons]
def words1 : List Jvm.Cond := Jvm.Cond.code x code maxLocals ret :: tables_1
/-- a 'code' word, met by the world's own term for the bytes: nothing is compared byte by byte -/
theorem code_word {y : MethodName} {bytes : ByteArray} {mx : Nat} {rt : Option FieldType} {a : Array Value} {s : State} {m : MethodId} {meth : Method} {c : Code} (h1 : s.methodNamed? y = some m) (h2 : s.vm.method? m = some meth) (h3 : meth.code = some c) (h4 : c.code = bytes)
    (h5 : (c.maxLocals == mx && c.exceptionTable.isEmpty && decide (c.maxStack ≤ mostOperands) && decide (meth.sig.returnType = rt) && !meth.locks && decide (parseMethodDescriptor y.desc = some meth.sig)) = true) : (Jvm.Cond.code y bytes mx rt).before a s = true := by
  simp only [Bool.and_eq_true, beq_iff_eq, Bool.not_eq_true', decide_eq_true_eq] at h5
  obtain ⟨⟨⟨⟨⟨g1, g2⟩, g3⟩, g4⟩, g5⟩, g6⟩ := h5
  simp [Cond.before, Cond.holds, Cond.value, h1, h2, h3, h4, g1, g2, g3, g4, g5, g6]
def isCode : Jvm.Cond → Bool
  | .code _ _ _ _ => true
  | _ => false
theorem all_split {L : List Jvm.Cond} {P : Jvm.Cond → Bool} (h1 : L.all (fun c => isCode c || P c) = true) (h2 : ∀ c ∈ L.filter isCode, P c = true) : L.all P = true := by
  refine List.all_eq_true.mpr fun c hc => ?_
  have h := List.all_eq_true.mp h1 c hc
  rcases Bool.eq_false_or_eq_true (isCode c) with hi | hi
  · exact h2 c (List.mem_filter.mpr ⟨hc, hi⟩)
  · simpa [hi] using h
set_option maxRecDepth 65536 in
theorem w_c0 : (Jvm.Cond.code x code maxLocals ret).before args0 about1 = true := code_word (m := ⟨1, 1⟩) (meth := k1m1) (c := k1c1) (by decide +kernel) rfl rfl rfl (by decide +kernel)
set_option maxRecDepth 65536 in
theorem w_c1 : (Jvm.Cond.code ({ cls := "java/lang/String", name := "<init>", desc := "([C)V" } : Jvm.MethodName) jdk_42_method_3_code (2 : Nat) (Option.none : Option Jvm.ClassFile.FieldType)).before args0 about1 = true := code_word (m := ⟨7, 1⟩) (meth := k7m1) (c := k7c1) (by decide +kernel) rfl rfl rfl (by decide +kernel)
set_option maxRecDepth 65536 in
theorem w_c2 : (Jvm.Cond.code ({ cls := "java/lang/String", name := "<init>", desc := "([CIILjava/lang/Void;)V" } : Jvm.MethodName) jdk_42_method_149_code (6 : Nat) (Option.none : Option Jvm.ClassFile.FieldType)).before args0 about1 = true := code_word (m := ⟨7, 4⟩) (meth := k7m4) (c := k7c4) (by decide +kernel) rfl rfl rfl (by decide +kernel)
set_option maxRecDepth 65536 in
theorem w_c3 : (Jvm.Cond.code ({ cls := "java/lang/Object", name := "<init>", desc := "()V" } : Jvm.MethodName) object_method_1_code (1 : Nat) (Option.none : Option Jvm.ClassFile.FieldType)).before args0 about1 = true := code_word (m := ⟨0, 0⟩) (meth := k0m0) (c := k0c0) (by decide +kernel) rfl rfl rfl (by decide +kernel)
set_option maxRecDepth 65536 in
theorem w_c4 : (Jvm.Cond.code ({ cls := "java/lang/StringUTF16", name := "compress", desc := "([CII)[B" } : Jvm.MethodName) jdk_52_method_16_code (6 : Nat) (Option.some (Jvm.ClassFile.FieldType.array Jvm.ClassFile.FieldType.byte))).before args0 about1 = true := code_word (m := ⟨8, 8⟩) (meth := k8m8) (c := k8c8) (by decide +kernel) rfl rfl rfl (by decide +kernel)
set_option maxRecDepth 65536 in
theorem w_c5 : (Jvm.Cond.code ({ cls := "java/lang/StringUTF16", name := "compress", desc := "([CI[BII)I" } : Jvm.MethodName) jdk_52_method_21_code (7 : Nat) (Option.some Jvm.ClassFile.FieldType.int)).before args0 about1 = true := code_word (m := ⟨8, 9⟩) (meth := k8m9) (c := k8c9) (by decide +kernel) rfl rfl rfl (by decide +kernel)
set_option maxRecDepth 65536 in
theorem w_c6 : (Jvm.Cond.code ({ cls := "java/lang/StringUTF16", name := "coderFromArrayLen", desc := "([BI)B" } : Jvm.MethodName) jdk_52_method_15_code (2 : Nat) (Option.some Jvm.ClassFile.FieldType.byte)).before args0 about1 = true := code_word (m := ⟨8, 7⟩) (meth := k8m7) (c := k8c7) (by decide +kernel) rfl rfl rfl (by decide +kernel)
set_option maxRecDepth 65536 in
theorem w_c7 : (Jvm.Cond.code ({ cls := "com/example/unnest/unnest/value/JsonStringAsciiPinLaw", name := "byteOk", desc := "(III)Z" } : Jvm.MethodName) method_3_code (3 : Nat) (Option.some Jvm.ClassFile.FieldType.boolean)).before args0 about1 = true := code_word (m := ⟨1, 2⟩) (meth := k1m2) (c := k1c2) (by decide +kernel) rfl rfl rfl (by decide +kernel)
set_option maxRecDepth 65536 in
theorem w_c8 : (Jvm.Cond.code ({ cls := "com/example/unnest/unnest/value/JsonStringAsciiPinLaw", name := "charOk", desc := "(III)Z" } : Jvm.MethodName) method_4_code (3 : Nat) (Option.some Jvm.ClassFile.FieldType.boolean)).before args0 about1 = true := code_word (m := ⟨1, 3⟩) (meth := k1m3) (c := k1c3) (by decide +kernel) rfl rfl rfl (by decide +kernel)
set_option maxRecDepth 65536 in
theorem w_c9 : (Jvm.Cond.code ({ cls := "com/example/unnest/unnest/value/JsonString", name := "ofLatin1", desc := "([B)Lcom/example/unnest/unnest/value/JsonString;" } : Jvm.MethodName) prog_88_method_4_code (1 : Nat) (Option.some (Jvm.ClassFile.FieldType.object "com/example/unnest/unnest/value/JsonString"))).before args0 about1 = true := code_word (m := ⟨11, 3⟩) (meth := k11m3) (c := k11c3) (by decide +kernel) rfl rfl rfl (by decide +kernel)
set_option maxRecDepth 65536 in
theorem w_c10 : (Jvm.Cond.code ({ cls := "com/example/unnest/unnest/value/JsonString", name := "<init>", desc := "([BLjava/lang/String;)V" } : Jvm.MethodName) prog_88_method_2_code (3 : Nat) (Option.none : Option Jvm.ClassFile.FieldType)).before args0 about1 = true := code_word (m := ⟨11, 1⟩) (meth := k11m1) (c := k11c1) (by decide +kernel) rfl rfl rfl (by decide +kernel)
set_option maxRecDepth 65536 in
theorem w_c11 : (Jvm.Cond.code ({ cls := "com/example/unnest/unnest/value/JsonValue", name := "<init>", desc := "()V" } : Jvm.MethodName) prog_91_method_1_code (1 : Nat) (Option.none : Option Jvm.ClassFile.FieldType)).before args0 about1 = true := code_word (m := ⟨10, 0⟩) (meth := k10m0) (c := k10c0) (by decide +kernel) rfl rfl rfl (by decide +kernel)
set_option maxRecDepth 65536 in
theorem w_c12 : (Jvm.Cond.code ({ cls := "com/example/unnest/unnest/value/Value", name := "<init>", desc := "()V" } : Jvm.MethodName) prog_99_method_1_code (1 : Nat) (Option.none : Option Jvm.ClassFile.FieldType)).before args0 about1 = true := code_word (m := ⟨9, 0⟩) (meth := k9m0) (c := k9c0) (by decide +kernel) rfl rfl rfl (by decide +kernel)
set_option maxRecDepth 65536 in
theorem w_c13 : (Jvm.Cond.code ({ cls := "com/example/unnest/unnest/value/JsonString", name := "ascii", desc := "()[B" } : Jvm.MethodName) prog_88_method_6_code (3 : Nat) (Option.some (Jvm.ClassFile.FieldType.array Jvm.ClassFile.FieldType.byte))).before args0 about1 = true := code_word (m := ⟨11, 4⟩) (meth := k11m4) (c := k11c4) (by decide +kernel) rfl rfl rfl (by decide +kernel)
set_option maxRecDepth 65536 in
theorem w_c14 : (Jvm.Cond.code ({ cls := "com/example/unnest/unnest/value/JsonStringAsciiPinLaw", name := "sameByte", desc := "([BIII)Z" } : Jvm.MethodName) method_5_code (4 : Nat) (Option.some Jvm.ClassFile.FieldType.boolean)).before args0 about1 = true := code_word (m := ⟨1, 4⟩) (meth := k1m4) (c := k1c4) (by decide +kernel) rfl rfl rfl (by decide +kernel)
set_option maxRecDepth 65536 in
theorem w_c15 : (Jvm.Cond.code ({ cls := "com/example/unnest/unnest/value/JsonString", name := "of", desc := "(Ljava/lang/String;)Lcom/example/unnest/unnest/value/JsonString;" } : Jvm.MethodName) prog_88_method_3_code (4 : Nat) (Option.some (Jvm.ClassFile.FieldType.object "com/example/unnest/unnest/value/JsonString"))).before args0 about1 = true := code_word (m := ⟨11, 2⟩) (meth := k11m2) (c := k11c2) (by decide +kernel) rfl rfl rfl (by decide +kernel)
set_option maxRecDepth 65536 in
theorem w_c16 : (Jvm.Cond.code ({ cls := "java/lang/String", name := "length", desc := "()I" } : Jvm.MethodName) jdk_42_method_54_code (1 : Nat) (Option.some Jvm.ClassFile.FieldType.int)).before args0 about1 = true := code_word (m := ⟨7, 2⟩) (meth := k7m2) (c := k7c2) (by decide +kernel) rfl rfl rfl (by decide +kernel)
set_option maxRecDepth 65536 in
theorem w_c17 : (Jvm.Cond.code ({ cls := "java/lang/String", name := "coder", desc := "()B" } : Jvm.MethodName) jdk_42_method_152_code (1 : Nat) (Option.some Jvm.ClassFile.FieldType.byte)).before args0 about1 = true := code_word (m := ⟨7, 5⟩) (meth := k7m5) (c := k7c5) (by decide +kernel) rfl rfl rfl (by decide +kernel)
set_option maxRecDepth 65536 in
theorem w_c18 : (Jvm.Cond.code ({ cls := "java/lang/String", name := "charAt", desc := "(I)C" } : Jvm.MethodName) jdk_42_method_56_code (2 : Nat) (Option.some Jvm.ClassFile.FieldType.char)).before args0 about1 = true := code_word (m := ⟨7, 3⟩) (meth := k7m3) (c := k7c3) (by decide +kernel) rfl rfl rfl (by decide +kernel)
set_option maxRecDepth 65536 in
theorem w_c19 : (Jvm.Cond.code ({ cls := "java/lang/String", name := "isLatin1", desc := "()Z" } : Jvm.MethodName) jdk_42_method_154_code (1 : Nat) (Option.some Jvm.ClassFile.FieldType.boolean)).before args0 about1 = true := code_word (m := ⟨7, 6⟩) (meth := k7m6) (c := k7c6) (by decide +kernel) rfl rfl rfl (by decide +kernel)
set_option maxRecDepth 65536 in
theorem w_c20 : (Jvm.Cond.code ({ cls := "java/lang/StringLatin1", name := "charAt", desc := "([BI)C" } : Jvm.MethodName) jdk_43_method_2_code (2 : Nat) (Option.some Jvm.ClassFile.FieldType.char)).before args0 about1 = true := code_word (m := ⟨12, 1⟩) (meth := k12m1) (c := k12c1) (by decide +kernel) rfl rfl rfl (by decide +kernel)
set_option maxRecDepth 65536 in
theorem w_c21 : (Jvm.Cond.code ({ cls := "java/lang/String", name := "checkIndex", desc := "(II)V" } : Jvm.MethodName) jdk_42_method_155_code (2 : Nat) (Option.none : Option Jvm.ClassFile.FieldType)).before args0 about1 = true := code_word (m := ⟨7, 7⟩) (meth := k7m7) (c := k7c7) (by decide +kernel) rfl rfl rfl (by decide +kernel)
set_option maxRecDepth 65536 in
theorem w_c22 : (Jvm.Cond.code ({ cls := "jdk/internal/util/Preconditions", name := "checkIndex", desc := "(IILjava/util/function/BiFunction;)I" } : Jvm.MethodName) jdk_41_method_11_code (3 : Nat) (Option.some Jvm.ClassFile.FieldType.int)).before args0 about1 = true := code_word (m := ⟨13, 1⟩) (meth := k13m1) (c := k13c1) (by decide +kernel) rfl rfl rfl (by decide +kernel)
set_option maxRecDepth 65536 in
theorem w_c23 : (Jvm.Cond.code ({ cls := "com/example/unnest/unnest/value/JsonStringAsciiPinLaw", name := "charMatch", desc := "([BIII)Z" } : Jvm.MethodName) method_6_code (4 : Nat) (Option.some Jvm.ClassFile.FieldType.boolean)).before args0 about1 = true := code_word (m := ⟨1, 5⟩) (meth := k1m5) (c := k1c5) (by decide +kernel) rfl rfl rfl (by decide +kernel)
set_option maxRecDepth 65536 in
theorem w_c24 : (Jvm.Cond.code ({ cls := "com/example/unnest/unnest/value/JsonString", name := "<init>", desc := "(Ljava/lang/String;)V" } : Jvm.MethodName) prog_88_method_1_code (2 : Nat) (Option.none : Option Jvm.ClassFile.FieldType)).before args0 about1 = true := code_word (m := ⟨11, 0⟩) (meth := k11m0) (c := k11c0) (by decide +kernel) rfl rfl rfl (by decide +kernel)
set_option maxRecDepth 65536 in
theorem w_c25 : (Jvm.Cond.code ({ cls := "java/lang/StringUTF16", name := "toBytes", desc := "([CII)[B" } : Jvm.MethodName) jdk_52_method_14_code (5 : Nat) (Option.some (Jvm.ClassFile.FieldType.array Jvm.ClassFile.FieldType.byte))).before args0 about1 = true := code_word (m := ⟨8, 6⟩) (meth := k8m6) (c := k8c6) (by decide +kernel) rfl rfl rfl (by decide +kernel)
set_option maxRecDepth 65536 in
theorem w_c26 : (Jvm.Cond.code ({ cls := "java/lang/StringUTF16", name := "newBytesFor", desc := "(I)[B" } : Jvm.MethodName) jdk_52_method_2_code (1 : Nat) (Option.some (Jvm.ClassFile.FieldType.array Jvm.ClassFile.FieldType.byte))).before args0 about1 = true := code_word (m := ⟨8, 1⟩) (meth := k8m1) (c := k8c1) (by decide +kernel) rfl rfl rfl (by decide +kernel)
set_option maxRecDepth 65536 in
theorem w_c27 : (Jvm.Cond.code ({ cls := "java/lang/StringUTF16", name := "newBytesLength", desc := "(I)I" } : Jvm.MethodName) jdk_52_method_3_code (1 : Nat) (Option.some Jvm.ClassFile.FieldType.int)).before args0 about1 = true := code_word (m := ⟨8, 2⟩) (meth := k8m2) (c := k8c2) (by decide +kernel) rfl rfl rfl (by decide +kernel)
set_option maxRecDepth 65536 in
theorem w_c28 : (Jvm.Cond.code ({ cls := "java/lang/StringUTF16", name := "putChar", desc := "([BII)V" } : Jvm.MethodName) jdk_52_method_4_code (3 : Nat) (Option.none : Option Jvm.ClassFile.FieldType)).before args0 about1 = true := code_word (m := ⟨8, 3⟩) (meth := k8m3) (c := k8c3) (by decide +kernel) rfl rfl rfl (by decide +kernel)
set_option maxRecDepth 65536 in
theorem w_c29 : (Jvm.Cond.code ({ cls := "java/lang/StringUTF16", name := "getChar", desc := "([BI)C" } : Jvm.MethodName) jdk_52_method_5_code (2 : Nat) (Option.some Jvm.ClassFile.FieldType.char)).before args0 about1 = true := code_word (m := ⟨8, 4⟩) (meth := k8m4) (c := k8c4) (by decide +kernel) rfl rfl rfl (by decide +kernel)
set_option maxRecDepth 65536 in
theorem w_c30 : (Jvm.Cond.code ({ cls := "java/lang/StringUTF16", name := "charAt", desc := "([BI)C" } : Jvm.MethodName) jdk_52_method_83_code (2 : Nat) (Option.some Jvm.ClassFile.FieldType.char)).before args0 about1 = true := code_word (m := ⟨8, 10⟩) (meth := k8m10) (c := k8c10) (by decide +kernel) rfl rfl rfl (by decide +kernel)
set_option maxRecDepth 65536 in
theorem w_c31 : (Jvm.Cond.code ({ cls := "java/lang/StringUTF16", name := "checkIndex", desc := "(I[B)V" } : Jvm.MethodName) jdk_52_method_91_code (2 : Nat) (Option.none : Option Jvm.ClassFile.FieldType)).before args0 about1 = true := code_word (m := ⟨8, 11⟩) (meth := k8m11) (c := k8c11) (by decide +kernel) rfl rfl rfl (by decide +kernel)
set_option maxRecDepth 65536 in
theorem w_c32 : (Jvm.Cond.code ({ cls := "java/lang/StringUTF16", name := "length", desc := "([B)I" } : Jvm.MethodName) jdk_52_method_6_code (1 : Nat) (Option.some Jvm.ClassFile.FieldType.int)).before args0 about1 = true := code_word (m := ⟨8, 5⟩) (meth := k8m5) (c := k8c5) (by decide +kernel) rfl rfl rfl (by decide +kernel)
def codes1 : List Jvm.Cond := [Jvm.Cond.code x code maxLocals ret, Jvm.Cond.code ({ cls := "java/lang/String", name := "<init>", desc := "([C)V" } : Jvm.MethodName) jdk_42_method_3_code (2 : Nat) (Option.none : Option Jvm.ClassFile.FieldType), Jvm.Cond.code ({ cls := "java/lang/String", name := "<init>", desc := "([CIILjava/lang/Void;)V" } : Jvm.MethodName) jdk_42_method_149_code (6 : Nat) (Option.none : Option Jvm.ClassFile.FieldType), Jvm.Cond.code ({ cls := "java/lang/Object", name := "<init>", desc := "()V" } : Jvm.MethodName) object_method_1_code (1 : Nat) (Option.none : Option Jvm.ClassFile.FieldType), Jvm.Cond.code ({ cls := "java/lang/StringUTF16", name := "compress", desc := "([CII)[B" } : Jvm.MethodName) jdk_52_method_16_code (6 : Nat) (Option.some (Jvm.ClassFile.FieldType.array Jvm.ClassFile.FieldType.byte)), Jvm.Cond.code ({ cls := "java/lang/StringUTF16", name := "compress", desc := "([CI[BII)I" } : Jvm.MethodName) jdk_52_method_21_code (7 : Nat) (Option.some Jvm.ClassFile.FieldType.int), Jvm.Cond.code ({ cls := "java/lang/StringUTF16", name := "coderFromArrayLen", desc := "([BI)B" } : Jvm.MethodName) jdk_52_method_15_code (2 : Nat) (Option.some Jvm.ClassFile.FieldType.byte), Jvm.Cond.code ({ cls := "com/example/unnest/unnest/value/JsonStringAsciiPinLaw", name := "byteOk", desc := "(III)Z" } : Jvm.MethodName) method_3_code (3 : Nat) (Option.some Jvm.ClassFile.FieldType.boolean), Jvm.Cond.code ({ cls := "com/example/unnest/unnest/value/JsonStringAsciiPinLaw", name := "charOk", desc := "(III)Z" } : Jvm.MethodName) method_4_code (3 : Nat) (Option.some Jvm.ClassFile.FieldType.boolean), Jvm.Cond.code ({ cls := "com/example/unnest/unnest/value/JsonString", name := "ofLatin1", desc := "([B)Lcom/example/unnest/unnest/value/JsonString;" } : Jvm.MethodName) prog_88_method_4_code (1 : Nat) (Option.some (Jvm.ClassFile.FieldType.object "com/example/unnest/unnest/value/JsonString")), Jvm.Cond.code ({ cls := "com/example/unnest/unnest/value/JsonString", name := "<init>", desc := "([BLjava/lang/String;)V" } : Jvm.MethodName) prog_88_method_2_code (3 : Nat) (Option.none : Option Jvm.ClassFile.FieldType), Jvm.Cond.code ({ cls := "com/example/unnest/unnest/value/JsonValue", name := "<init>", desc := "()V" } : Jvm.MethodName) prog_91_method_1_code (1 : Nat) (Option.none : Option Jvm.ClassFile.FieldType), Jvm.Cond.code ({ cls := "com/example/unnest/unnest/value/Value", name := "<init>", desc := "()V" } : Jvm.MethodName) prog_99_method_1_code (1 : Nat) (Option.none : Option Jvm.ClassFile.FieldType), Jvm.Cond.code ({ cls := "com/example/unnest/unnest/value/JsonString", name := "ascii", desc := "()[B" } : Jvm.MethodName) prog_88_method_6_code (3 : Nat) (Option.some (Jvm.ClassFile.FieldType.array Jvm.ClassFile.FieldType.byte)), Jvm.Cond.code ({ cls := "com/example/unnest/unnest/value/JsonStringAsciiPinLaw", name := "sameByte", desc := "([BIII)Z" } : Jvm.MethodName) method_5_code (4 : Nat) (Option.some Jvm.ClassFile.FieldType.boolean), Jvm.Cond.code ({ cls := "com/example/unnest/unnest/value/JsonString", name := "of", desc := "(Ljava/lang/String;)Lcom/example/unnest/unnest/value/JsonString;" } : Jvm.MethodName) prog_88_method_3_code (4 : Nat) (Option.some (Jvm.ClassFile.FieldType.object "com/example/unnest/unnest/value/JsonString")), Jvm.Cond.code ({ cls := "java/lang/String", name := "length", desc := "()I" } : Jvm.MethodName) jdk_42_method_54_code (1 : Nat) (Option.some Jvm.ClassFile.FieldType.int), Jvm.Cond.code ({ cls := "java/lang/String", name := "coder", desc := "()B" } : Jvm.MethodName) jdk_42_method_152_code (1 : Nat) (Option.some Jvm.ClassFile.FieldType.byte), Jvm.Cond.code ({ cls := "java/lang/String", name := "charAt", desc := "(I)C" } : Jvm.MethodName) jdk_42_method_56_code (2 : Nat) (Option.some Jvm.ClassFile.FieldType.char), Jvm.Cond.code ({ cls := "java/lang/String", name := "isLatin1", desc := "()Z" } : Jvm.MethodName) jdk_42_method_154_code (1 : Nat) (Option.some Jvm.ClassFile.FieldType.boolean), Jvm.Cond.code ({ cls := "java/lang/StringLatin1", name := "charAt", desc := "([BI)C" } : Jvm.MethodName) jdk_43_method_2_code (2 : Nat) (Option.some Jvm.ClassFile.FieldType.char), Jvm.Cond.code ({ cls := "java/lang/String", name := "checkIndex", desc := "(II)V" } : Jvm.MethodName) jdk_42_method_155_code (2 : Nat) (Option.none : Option Jvm.ClassFile.FieldType), Jvm.Cond.code ({ cls := "jdk/internal/util/Preconditions", name := "checkIndex", desc := "(IILjava/util/function/BiFunction;)I" } : Jvm.MethodName) jdk_41_method_11_code (3 : Nat) (Option.some Jvm.ClassFile.FieldType.int), Jvm.Cond.code ({ cls := "com/example/unnest/unnest/value/JsonStringAsciiPinLaw", name := "charMatch", desc := "([BIII)Z" } : Jvm.MethodName) method_6_code (4 : Nat) (Option.some Jvm.ClassFile.FieldType.boolean), Jvm.Cond.code ({ cls := "com/example/unnest/unnest/value/JsonString", name := "<init>", desc := "(Ljava/lang/String;)V" } : Jvm.MethodName) prog_88_method_1_code (2 : Nat) (Option.none : Option Jvm.ClassFile.FieldType), Jvm.Cond.code ({ cls := "java/lang/StringUTF16", name := "toBytes", desc := "([CII)[B" } : Jvm.MethodName) jdk_52_method_14_code (5 : Nat) (Option.some (Jvm.ClassFile.FieldType.array Jvm.ClassFile.FieldType.byte)), Jvm.Cond.code ({ cls := "java/lang/StringUTF16", name := "newBytesFor", desc := "(I)[B" } : Jvm.MethodName) jdk_52_method_2_code (1 : Nat) (Option.some (Jvm.ClassFile.FieldType.array Jvm.ClassFile.FieldType.byte)), Jvm.Cond.code ({ cls := "java/lang/StringUTF16", name := "newBytesLength", desc := "(I)I" } : Jvm.MethodName) jdk_52_method_3_code (1 : Nat) (Option.some Jvm.ClassFile.FieldType.int), Jvm.Cond.code ({ cls := "java/lang/StringUTF16", name := "putChar", desc := "([BII)V" } : Jvm.MethodName) jdk_52_method_4_code (3 : Nat) (Option.none : Option Jvm.ClassFile.FieldType), Jvm.Cond.code ({ cls := "java/lang/StringUTF16", name := "getChar", desc := "([BI)C" } : Jvm.MethodName) jdk_52_method_5_code (2 : Nat) (Option.some Jvm.ClassFile.FieldType.char), Jvm.Cond.code ({ cls := "java/lang/StringUTF16", name := "charAt", desc := "([BI)C" } : Jvm.MethodName) jdk_52_method_83_code (2 : Nat) (Option.some Jvm.ClassFile.FieldType.char), Jvm.Cond.code ({ cls := "java/lang/StringUTF16", name := "checkIndex", desc := "(I[B)V" } : Jvm.MethodName) jdk_52_method_91_code (2 : Nat) (Option.none : Option Jvm.ClassFile.FieldType), Jvm.Cond.code ({ cls := "java/lang/StringUTF16", name := "length", desc := "([B)I" } : Jvm.MethodName) jdk_52_method_6_code (1 : Nat) (Option.some Jvm.ClassFile.FieldType.int)]
set_option maxRecDepth 65536 in
theorem codes_eq : words1.filter isCode = codes1 := rfl
theorem w_codes : ∀ c ∈ words1.filter isCode, c.before args0 about1 = true := by
  rw [codes_eq]
  intro c hc
  simp only [codes1, List.mem_cons, List.not_mem_nil, or_false] at hc
  rcases hc with rfl | rfl | rfl | rfl | rfl | rfl | rfl | rfl | rfl | rfl | rfl | rfl | rfl | rfl | rfl | rfl | rfl | rfl | rfl | rfl | rfl | rfl | rfl | rfl | rfl | rfl | rfl | rfl | rfl | rfl | rfl | rfl | rfl
  · exact w_c0
  · exact w_c1
  · exact w_c2
  · exact w_c3
  · exact w_c4
  · exact w_c5
  · exact w_c6
  · exact w_c7
  · exact w_c8
  · exact w_c9
  · exact w_c10
  · exact w_c11
  · exact w_c12
  · exact w_c13
  · exact w_c14
  · exact w_c15
  · exact w_c16
  · exact w_c17
  · exact w_c18
  · exact w_c19
  · exact w_c20
  · exact w_c21
  · exact w_c22
  · exact w_c23
  · exact w_c24
  · exact w_c25
  · exact w_c26
  · exact w_c27
  · exact w_c28
  · exact w_c29
  · exact w_c30
  · exact w_c31
  · exact w_c32
set_option maxRecDepth 65536 in
theorem w_t1 : (words1.take 24).all (fun c => isCode c || c.before args0 about1) = true := by decide +kernel
set_option maxRecDepth 65536 in
theorem w_t2 : ((words1.drop 24).take 24).all (fun c => isCode c || c.before args0 about1) = true := by decide +kernel
set_option maxRecDepth 65536 in
theorem w_t3 : (((words1.drop 24).drop 24).take 24).all (fun c => isCode c || c.before args0 about1) = true := by decide +kernel
set_option maxRecDepth 65536 in
theorem w_t4 : ((((words1.drop 24).drop 24).drop 24).take 24).all (fun c => isCode c || c.before args0 about1) = true := by decide +kernel
set_option maxRecDepth 65536 in
theorem w_t5 : (((((words1.drop 24).drop 24).drop 24).drop 24).take 24).all (fun c => isCode c || c.before args0 about1) = true := by decide +kernel
set_option maxRecDepth 65536 in
theorem w_t6 : ((((((words1.drop 24).drop 24).drop 24).drop 24).drop 24).take 24).all (fun c => isCode c || c.before args0 about1) = true := by decide +kernel
set_option maxRecDepth 65536 in
theorem w_t7 : ((((((words1.drop 24).drop 24).drop 24).drop 24).drop 24).drop 24).all (fun c => isCode c || c.before args0 about1) = true := by decide +kernel
theorem w_tables : (allAtoms (Jvm.Cond.code x code maxLocals ret :: tables_1)).before args0 about1 = true := by
  rw [allAtoms_all]
  show words1.all (fun c => c.before args0 about1) = true
  refine all_split ?_ w_codes
  rw [← List.take_append_drop 24 words1, List.all_append, w_t1, ← List.take_append_drop 24 (words1.drop 24), List.all_append, w_t2, ← List.take_append_drop 24 ((words1.drop 24).drop 24), List.all_append, w_t3, ← List.take_append_drop 24 (((words1.drop 24).drop 24).drop 24), List.all_append, w_t4, ← List.take_append_drop 24 ((((words1.drop 24).drop 24).drop 24).drop 24), List.all_append, w_t5, ← List.take_append_drop 24 (((((words1.drop 24).drop 24).drop 24).drop 24).drop 24), List.all_append, w_t6, w_t7]
  rfl
set_option maxRecDepth 65536 in
theorem w_rest : rest_1_c.before args0 about1 = true := by decide +kernel
set_option maxRecDepth 65536 in
theorem w_case : (Jvm.Cond.and given_1 narrow_1).before args0 about1 = true := by decide +kernel
set_option maxRecDepth 65536 in
theorem w_consts : constsHeld consts_1 about1 := Jvm.Lit.constsHeldB_iff.mp (by decide +kernel)
theorem w_applies : (headSpec (Jvm.Cond.code x code maxLocals ret :: tables_1) room_1).applies x e0.platform about1 = true :=
  (Spec.applies_iff w_frames).mpr ⟨w_running, w_runnable, w_alone, w_named, w_hears, w_ripe, w_room, w_tables⟩
theorem atStart : AtStart classFile x code maxLocals ret World_1 tables_1 room_1 Calls_1 rest_1 Pre_1 launch0 p0 e0 about1 theMethod args0 below0 :=
  ⟨lists_1, trivial, launch0.admits_env _ _ _, launch0.least_env, fairChoices_fair.cas, fairChoices_fair.clock, w_frames, w_args, w_heap, w_applies, ⟨w_consts, trivial⟩, w_rest, w_case⟩
end start1
theorem witness_1 : WitnessClaimed_1 := ⟨start1.p0, start1.e0, start1.about1, start1.theMethod, start1.args0, start1.below0, start1.atStart⟩
end Jvm.Pilot.@@N@@
