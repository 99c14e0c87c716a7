import JvmDerived
import JvmDerived.Pilot.@@N@@Statement
import JvmDerived.Pilot.@@N@@Code
set_option linter.unusedVariables false
set_option linter.unusedSimpArgs false
/- laws to paste: Road.eqW, pair_says, narrow_ch, chr8_lo8, shr0, shr1, Road.low_at, Road.wide_lo, Road.wide_hi (cut by pick.py; bodies as the Statement names them) -/
namespace Jvm.Pilot.@@N@@
namespace StrChars
open Jvm Sem ClassFile Op Lib Jvm.Stand Jvm.Free.XT Jvm.Free.ALB Jvm.Free.JM Jvm.Free
open Jvm.Lib.Cold (StaticIs)
/-- the byte that i2b leaves of a char -/
def lo8 (x : Int32) : Int32 := x.toInt8.toInt32
theorem fits_lo8 (y : Int32) : fits .byte (.int (lo8 y)) = true := by
  have h1 := y.toInt8.le_toInt
  have h2 := y.toInt8.toInt_lt
  simp only [lo8, fits, Bool.and_eq_true, decide_eq_true_eq, Int32.le_iff_toInt_le, Int8.toInt_toInt32, show (-128 : Int32).toInt = -128 from by decide, show (127 : Int32).toInt = 127 from by decide]
  omega
def U16 : String := "java/lang/StringUTF16"
namespace Cmp5
def yN : MethodName := ⟨"java/lang/StringUTF16", "compress", "([CI[BII)I"⟩
abbrev yB : ByteArray := jdk_52_method_21_code
end Cmp5
namespace Cmp3
def yN : MethodName := ⟨"java/lang/StringUTF16", "compress", "([CII)[B"⟩
abbrev yB : ByteArray := jdk_52_method_16_code
end Cmp3
namespace CodL
def yN : MethodName := ⟨"java/lang/StringUTF16", "coderFromArrayLen", "([BI)B"⟩
abbrev yB : ByteArray := jdk_52_method_15_code
end CodL
namespace New4
def yN : MethodName := ⟨"java/lang/String", "<init>", "([CIILjava/lang/Void;)V"⟩
abbrev yB : ByteArray := jdk_42_method_149_code
end New4
namespace New1
def yN : MethodName := ⟨"java/lang/String", "<init>", "([C)V"⟩
abbrev yB : ByteArray := jdk_42_method_3_code
end New1
/-- the byte, read back as charAt reads it, is the char -/
theorem lo8_mask {x : Int32} (h0 : ¬ x < 0) (h1 : ¬ 255 < x) : lo8 x &&& 255 = x := by
  have t : ∀ k : Fin 256, lo8 (Int32.ofNat k.val) &&& 255 = Int32.ofNat k.val := by decide +kernel
  rw [Int32.lt_iff_toInt_lt] at h0 h1
  have e0 : (0 : Int32).toInt = 0 := rfl
  have e1 : (255 : Int32).toInt = 255 := rfl
  obtain ⟨k, hk⟩ : ∃ k : Nat, x.toInt = k := ⟨x.toInt.toNat, by omega⟩
  have hx : x = Int32.ofNat k := Int32.toInt_inj.mp (by rw [hk, Int32.toInt_ofNat_small (by omega)])
  rw [hx]
  exact t ⟨k, by omega⟩
end StrChars
namespace StrChars.Road
open Jvm Sem ClassFile Op Lib Jvm.Stand Jvm.Free Jvm.Free.XT
open Jvm.Lib.Cold (StaticIs)
abbrev ST : String := "java/lang/String"
/-- every table word that New1's law asks, flat -/
abbrev words : List Jvm.Cond := [.code New1.yN New1.yB 2 none, .initialized ST, .methodLink ST 27 New4.yN, .instanceMethod New4.yN,
  .code New4.yN New4.yB 6 none, .fieldLink ST 38 ST "COMPACT_STRINGS" "Z", .laysFinal ST ST "value" "[B", .fieldLink ST 9 ST "value" "[B", .laysFinal ST ST "coder" "B", .fieldLink ST 15 ST "coder" "B",
  .methodLink ST 1 Lib.objectInit, .instanceMethod Lib.objectInit, .code Lib.objectInit ⟨#[0xb1]⟩ 1 none, .methodLink ST 177 Cmp3.yN, .static Cmp3.yN, .methodLink ST 47 CodL.yN, .static CodL.yN,
  .code Cmp3.yN Cmp3.yB 6 (some (.array .byte)), .initialized U16, .arrayClass .byte, .methodLink U16 115 Cmp5.yN, .static Cmp5.yN, .code Cmp5.yN Cmp5.yB 7 (some .int), .code CodL.yN CodL.yB 2 (some .byte)]
end StrChars.Road
namespace StrChars
open Jvm Sem ClassFile Op Lib Jvm.Stand Jvm.Free.XT Jvm.Free.ALB Jvm.Free.JM Jvm.Free
open Jvm.Lib.Cold (StaticIs)
def hi8 (x : Int32) : Int32 := lo8 (x >>> ((8 : Int32) &&& 31))
/-- what StringUTF16.getChar makes of two bytes -/
def pairCh (u v : Int32) : Int32 := (((u &&& 255) <<< ((0 : Int32) &&& 31)) ||| ((v &&& 255) <<< ((8 : Int32) &&& 31))).toUInt32.toUInt16.toUInt32.toInt32
theorem shr0 (c : Int32) : c >>> ((0 : Int32) &&& 31) = c := by
  have e : ((0 : Int32) &&& 31) = 0 := by decide
  rw [e]
  apply Int32.toBitVec_inj.mp
  rw [Int32.toBitVec_shiftRight]
  have e1 : ((0 : Int32).toBitVec.smod 32) = 0#32 := by decide
  rw [e1, BitVec.sshiftRight_eq']
  exact BitVec.sshiftRight_zero
theorem lo8_and (x : Int32) : (lo8 x &&& 255).toBitVec.toNat = x.toBitVec.toNat % 256 := by
  have h : (lo8 x).toBitVec = (x.toBitVec.signExtend 8).signExtend 32 := by rw [lo8, Int8.toBitVec_toInt32, Int32.toBitVec_toInt8]
  rw [Int32.toBitVec_and, BitVec.toNat_and, h]
  have e : ((x.toBitVec.signExtend 8).signExtend 32).toNat % 256 = x.toBitVec.toNat % 256 := by
    rw [BitVec.toNat_signExtend]
    have hlt := x.toBitVec.isLt
    simp only [BitVec.toNat_setWidth, BitVec.toNat_signExtend]
    split <;> split <;> omega
  rw [← e]
  exact Nat.and_two_pow_sub_one_eq_mod _ 8
theorem pair_says {c : Int32} (h0 : ¬ c < 0) (h1 : ¬ 65535 < c) : pairCh (lo8 c) (hi8 c) = c := by
  rw [Int32.lt_iff_toInt_lt] at h0 h1
  have e0 : (0 : Int32).toInt = 0 := rfl
  have e1 : (65535 : Int32).toInt = 65535 := rfl
  have hc : c.toInt = c.toBitVec.toNat := by
    have := c.toBitVec.isLt
    have e : c.toInt = c.toBitVec.toInt := rfl
    rw [e] at h0 h1
    rw [e]
    rw [BitVec.toInt_eq_toNat_cond] at h0 h1 ⊢
    split at h0 <;> split <;> omega
  have hn : c.toBitVec.toNat < 65536 := by omega
  have a1 := lo8_and c
  have a2 : (hi8 c &&& 255).toBitVec.toNat = c.toBitVec.toNat / 256 := by
    rw [hi8, lo8_and]
    have e : ((8 : Int32) &&& 31) = 8 := by decide
    rw [e, Int32.toBitVec_shiftRight]
    have e2 : ((8 : Int32).toBitVec.smod 32) = 8#32 := by decide
    rw [e2, BitVec.sshiftRight_eq', BitVec.toNat_sshiftRight_of_msb_false (by rw [BitVec.msb_eq_false_iff_two_mul_lt]; omega)]
    show c.toBitVec.toNat >>> 8 % 256 = _
    rw [Nat.shiftRight_eq_div_pow]
    omega
  unfold pairCh
  apply Int32.toBitVec_inj.mp
  apply BitVec.eq_of_toNat_eq
  have f0 : ((0 : Int32) &&& 31) = 0 := by decide
  have f8 : ((8 : Int32) &&& 31) = 8 := by decide
  rw [f0, f8]
  have g : (((lo8 c &&& 255) <<< (0 : Int32)) ||| ((hi8 c &&& 255) <<< (8 : Int32))).toBitVec.toNat = c.toBitVec.toNat := by
    rw [Int32.toBitVec_or, Int32.toBitVec_shiftLeft, Int32.toBitVec_shiftLeft]
    have s0 : ((0 : Int32).toBitVec.smod 32) = 0#32 := by decide
    have s8 : ((8 : Int32).toBitVec.smod 32) = 8#32 := by decide
    rw [s0, s8, BitVec.toNat_or]
    simp only [BitVec.shiftLeft_eq', BitVec.toNat_shiftLeft, a1, a2]
    show (c.toBitVec.toNat % 256) <<< 0 % 2 ^ 32 ||| (c.toBitVec.toNat / 256) <<< 8 % 2 ^ 32 = _
    rw [Nat.shiftLeft_zero, Nat.mod_eq_of_lt (show c.toBitVec.toNat % 256 < 2 ^ 32 by omega), Nat.mod_eq_of_lt (show (c.toBitVec.toNat / 256) <<< 8 < 2 ^ 32 by rw [Nat.shiftLeft_eq]; omega), Nat.or_comm, ← Nat.shiftLeft_add_eq_or_of_lt (by omega), Nat.shiftLeft_eq]
    omega
  show BitVec.toNat (((((lo8 c &&& 255) <<< (0 : Int32)) ||| ((hi8 c &&& 255) <<< (8 : Int32))).toBitVec.setWidth 16).setWidth 32) = _
  rw [BitVec.toNat_setWidth, BitVec.toNat_setWidth, g]
  omega
end StrChars
namespace StrChars
open Jvm Sem ClassFile Op Lib Jvm.Stand Jvm.Free.XT Jvm.Free.ALB Jvm.Free.JM Jvm.Free
open Jvm.Lib.Cold (StaticIs)
theorem shr1 {n : Nat} (h : 2 * n < 2 ^ 31) : Int32.ofNat (2 * n) >>> ((1 : Int32) &&& 31) = Int32.ofNat n := by
  have e : ((1 : Int32) &&& 31) = 1 := by decide
  rw [e]
  apply Int32.toBitVec_inj.mp
  rw [Int32.toBitVec_shiftRight]
  have e1 : ((1 : Int32).toBitVec.smod 32) = 1#32 := by decide
  have hm : (BitVec.ofNat 32 (2 * n)).toNat = 2 * n := by rw [BitVec.toNat_ofNat, Nat.mod_eq_of_lt (by omega)]
  rw [e1, BitVec.sshiftRight_eq']
  apply BitVec.eq_of_toNat_eq
  show ((BitVec.ofNat 32 (2 * n)).sshiftRight 1).toNat = (BitVec.ofNat 32 n).toNat
  rw [BitVec.toNat_sshiftRight_of_msb_false (by rw [BitVec.msb_eq_false_iff_two_mul_lt, hm]; omega), hm, BitVec.toNat_ofNat, Nat.shiftRight_eq_div_pow]
  omega
/-- charAt's cast of a byte read back -/
def chr8 (u : Int32) : Int32 := (u &&& 255).toUInt32.toUInt16.toUInt32.toInt32
theorem chr8_lo8 {c : Int32} (h0 : ¬ c < 0) (h1 : ¬ 255 < c) : chr8 (lo8 c) = c := by
  have t : ∀ k : Fin 256, (Int32.ofNat k.val).toUInt32.toUInt16.toUInt32.toInt32 = Int32.ofNat k.val := by decide +kernel
  unfold chr8
  rw [lo8_mask h0 h1]
  rw [Int32.lt_iff_toInt_lt] at h0 h1
  have e0 : (0 : Int32).toInt = 0 := rfl
  have e1 : (255 : Int32).toInt = 255 := rfl
  obtain ⟨k, hk⟩ : ∃ k : Nat, c.toInt = k := ⟨c.toInt.toNat, by omega⟩
  have hx : c = Int32.ofNat k := Int32.toInt_inj.mp (by rw [hk, Int32.toInt_ofNat_small (by omega)])
  rw [hx]
  exact t ⟨k, by omega⟩
theorem narrow_ch {c : Int32} (h0 : ¬ c < 0) (h1 : ¬ 65535 < c) : narrow .char (.int c) = .int c := by
  have q : narrow .char (.int (pairCh (lo8 c) (hi8 c))) = .int (pairCh (lo8 c) (hi8 c)) := narrow_c _
  rwa [pair_says h0 h1] at q
/-- the array's cell V codes the n chars f 0 .. f (n - 1) by the coder cd, as the JDK does: coder 1 just where some char is above 255 -/
def Cod (cd : Int32) (n : Nat) (f : Nat → Int32) (V : Cell) : Prop := (cd = 0 ∧ V.slots.size = n ∧ ∀ j, j < n → V.slots[j]? = some (.int (lo8 (f j))) ∧ ¬ 255 < f j) ∨ (cd = 1 ∧ V.slots.size = 2 * n ∧ (∀ j, j < n → V.slots[2 * j]? = some (.int (lo8 (f j))) ∧ V.slots[2 * j + 1]? = some (.int (hi8 (f j)))) ∧ ∃ j, j < n ∧ 255 < f j)
/-- **x is a String of the n chars f 0 .. f (n - 1)**, Latin-1 or UTF-16; its array at t has the cell V -/
def Txt (x t : Addr) (V : Cell) (cd : Int32) (n : Nat) (f : Nat → Int32) (U : State) : Prop := Exact "java/lang/String" x U ∧ Has x "java/lang/String" "value" "[B" (.ref t) U ∧ Has x "java/lang/String" "coder" "B" (.int cd) U ∧ XT.Arr .byte t V U ∧ Cod cd n f V ∧ ∀ j, j < n → ¬ f j < 0 ∧ ¬ 65535 < f j
theorem Txt.mv {x t : Addr} {V : Cell} {cd : Int32} {n : Nat} {f : Nat → Int32} {U U' : State} (h : Txt x t V cd n f U) (hal : U.vm.Alike U'.vm) (hh : U'.heap = U.heap) : Txt x t V cd n f U' := ⟨h.1.mv hal hh, h.2.1.mv hal hh, h.2.2.1.mv hal hh, h.2.2.2.1.mv hal hh, h.2.2.2.2⟩
end StrChars
namespace StrChars.Road
open Jvm Sem ClassFile Op Lib Jvm.Stand Jvm.Free Jvm.Free.XT
open Jvm.Lib.Cold (StaticIs)
theorem consq {a : Array Value} {s : State} {c : Jvm.Cond} {L : List Jvm.Cond} (h0 : c.before a s = true) (h : ∀ w ∈ L, w.before a s = true) : ∀ w ∈ c :: L, w.before a s = true := fun w hw => (List.mem_cons.mp hw).elim (fun e => e ▸ h0) (h w)
/-- the bytes of the chars cs, low before high -/
def wideBytes : List Int32 → List Value
  | [] => []
  | c :: cs => .int (lo8 c) :: .int (hi8 c) :: wideBytes cs
theorem wide_lo (d : Value) : ∀ (cs : List Int32) (j : Nat), j < cs.length → (wideBytes cs).getD (2 * j) d = .int (lo8 (cs.getD j 0))
  | [], j, h => absurd h (Nat.not_lt_zero j)
  | c :: cs, 0, _ => rfl
  | c :: cs, j + 1, h => by
    have q := wide_lo d cs j (by simpa using h)
    rw [show 2 * (j + 1) = 2 * j + 1 + 1 from by omega]
    simpa [wideBytes] using q
theorem wide_hi (d : Value) : ∀ (cs : List Int32) (j : Nat), j < cs.length → (wideBytes cs).getD (2 * j + 1) d = .int (hi8 (cs.getD j 0))
  | [], j, h => absurd h (Nat.not_lt_zero j)
  | c :: cs, 0, _ => rfl
  | c :: cs, j + 1, h => by
    have q := wide_hi d cs j (by simpa using h)
    rw [show 2 * (j + 1) + 1 = 2 * j + 1 + 1 + 1 from by omega]
    simpa [wideBytes] using q
theorem low_at (d : Value) (cs : List Int32) (j : Nat) (h : j < cs.length) : (cs.map fun c => Value.int (lo8 c)).getD j d = .int (lo8 (cs.getD j 0)) := by
  simp [List.getD_eq_getElem?_getD, h]
/-- an array of N2 bytes vs codes the chars cs by the coder cd -/
def CodA (cs : List Int32) (cd N2 : Int32) (vs : List Value) : Prop := (cd = 0 ∧ N2 = Int32.ofNat cs.length ∧ vs = (cs.map fun c => Value.int (lo8 c)) ∧ ∀ c ∈ cs, ¬ 255 < c) ∨ (cd = 1 ∧ N2 = Int32.ofNat (2 * cs.length) ∧ vs = wideBytes cs ∧ ∃ c ∈ cs, 255 < c)
theorem CodA.cod {cs : List Int32} {cd N2 : Int32} {vs : List Value} {V : Cell} (h : CodA cs cd N2 vs) (hn : 2 * cs.length < 2 ^ 31) (hs : V.slots.size = N2.toNatClampNeg) (hv : RoadKit.Has V vs (.int 0)) : Cod cd cs.length (fun j => cs.getD j 0) V := by
  rcases h with ⟨rfl, rfl, rfl, h⟩ | ⟨rfl, rfl, rfl, c, hc, hw⟩
  · rw [n32 (by omega)] at hs
    exact Or.inl ⟨rfl, hs, fun j hj => ⟨by rw [hv j (by omega), low_at _ _ _ hj], by
      have e : cs.getD j 0 = cs[j] := by simp [List.getD_eq_getElem?_getD, hj]
      show ¬ 255 < cs.getD j 0
      rw [e]; exact h _ (List.getElem_mem _)⟩⟩
  · rw [n32 (by omega)] at hs
    obtain ⟨j, hj, rfl⟩ := List.getElem_of_mem hc
    exact Or.inr ⟨rfl, hs, fun j hj => ⟨by rw [hv _ (by omega), wide_lo _ _ _ hj], by rw [hv _ (by omega), wide_hi _ _ _ hj]⟩, j, hj, by
      have e : cs.getD j 0 = cs[j] := by simp [List.getD_eq_getElem?_getD, hj]
      show 255 < cs.getD j 0
      rw [e]; exact hw⟩
/-- an object of exactly java/lang/String, its two fields found: as the laws ask it -/
theorem strObj {Z U : State} {a0 : Array Value} {kI : Nat} (wi : (Jvm.Cond.instantiable ST kI).before a0 Z = true) (al : Z.vm.Alike U.vm) {x : Addr} {v0 c0 : Value} (E : RoadKit.Exa Z U.heap x ST) (V : RoadKit.Fld Z U.heap x ST "value" "[B" v0) (C : RoadKit.Fld Z U.heap x ST "coder" "B" c0) :
    ∃ (D : Cell) (fV fC : Field), Blank ST x D U ∧ Found ST "value" "[B" fV U ∧ Found ST "coder" "B" fC U ∧ D.slots[fV.slot]? = some v0 ∧ D.slots[fC.slot]? = some c0 ∧ RoadKit.slotOf Z ST "value" "[B" = fV.slot ∧ RoadKit.slotOf Z ST "coder" "B" = fC.slot := by
  obtain ⟨D, cfV, kV, iV, fV, hD, gV, stV, knV, obV, asV, slV⟩ := V
  obtain ⟨D', cfC, kC, iC, fC, hD', gC, stC, -, -, asC, slC⟩ := C
  cases hD.symm.trans hD'
  obtain ⟨D2, kD, e1, e2, e3, e4, e5⟩ := E
  cases hD.symm.trans e1
  obtain ⟨c2, k2, i1, i2, i3, -⟩ := Cond.instantiable_spec wi
  cases e2.symm.trans i1
  cases e3.symm.trans i2
  obtain ⟨kU, u1, u2⟩ := al.2.2 _ _ e3
  exact ⟨D, fV, fC, ⟨hD, ⟨knV, fun q hq => by rw [hq] at obV; cases obV⟩, by rw [al.findClass]; exact e2, kU, u1, by rw [u2]; exact i3, by rw [u2]; exact e5 i3⟩, ⟨SBG.found_only al ⟨cfV, kV, iV, gV⟩, stV⟩, ⟨SBG.found_only al ⟨cfC, kC, iC, gC⟩, stC⟩, slV, slC, by simp [RoadKit.slotOf, gV], by simp [RoadKit.slotOf, gC]⟩
theorem sta_is {Z U : State} (al : Z.vm.Alike U.vm) {C n d : String} {v : Value} (S : RoadKit.Sta Z U.heap C n d v) : StaticIs U C n d v := by
  obtain ⟨cfS, iS, kS, fS, st, cS, t1, t2, t3, t4, t5, t6, t7⟩ := S
  exact StaticIs.there (s := { Z with heap := U.heap }) ⟨cfS, iS, kS, fS, st, cS, t1, t2, t3, t4, t5, (fun q => by rw [q] at t6; cases t6), t7⟩ al rfl
end StrChars.Road
namespace StrChars
open Jvm Sem ClassFile Op Lib Jvm.Stand Jvm.Free.XT Jvm.Free.ALB Jvm.Free.JM Jvm.Free
open Jvm.Lib.Cold (StaticIs)
/-- what place i of a byte[]'s cell holds -/
def yv (A : Cell) (i : Nat) : Int32 := match A.slots[i]? with | some (.int x) => x | _ => 0
theorem yv_get {a : Addr} {A : Cell} {U : State} (h : XT.Arr .byte a A U) (ht : Typed .byte A) {i : Nat} (hi : i < A.slots.size) : A.slots[i]? = some (.int (yv A i)) := by
  have e := Array.getElem?_eq_getElem hi
  have f := ht i _ e
  unfold yv; rw [e]
  generalize A.slots[i] = v at f
  cases v <;> simp [fits] at f ⊢
/-- the two arrays are equal, place for place -/
def EqC (A B : Cell) : Prop := A.slots.size = B.slots.size ∧ ∀ i, i < A.slots.size → yv A i = yv B i
/-- a boolean that says whether p -/
def Says01 (q : Prop) (r : Option Value) (s u : State) : Prop := ∃ v : Int32, r = some (.int v) ∧ u.heap = s.heap ∧ ((v = 1 ∧ q) ∨ (v = 0 ∧ ¬ q))
theorem Says01.mv {q : Prop} : ∀ r (U U' V V' : State), U'.heap = U.heap → V.vm.Alike V'.vm → V'.heap = V.heap → Says01 q r U V → Says01 q r U' V' :=
  fun r U U' V V' h1 _ h2 ⟨v, a, b, c⟩ => ⟨v, a, by rw [h1, h2]; exact b, c⟩
namespace LEq
def yN : MethodName := ⟨"java/lang/StringLatin1", "equals", "([B[B)Z"⟩
abbrev yB : ByteArray := jdk_43_method_13_code
theorem d0 : decode yB 0 = .ok (.aload_n 0, 1) := by decide +kernel
theorem d1 : decode yB 1 = .ok (.arraylength, 1) := by decide +kernel
theorem d2 : decode yB 2 = .ok (.aload_n 1, 1) := by decide +kernel
theorem d3 : decode yB 3 = .ok (.arraylength, 1) := by decide +kernel
theorem d4 : decode yB 4 = .ok (.if_icmp (.ne) 30, 3) := by decide +kernel
theorem d7 : decode yB 7 = .ok (.iconst 0, 1) := by decide +kernel
theorem d8 : decode yB 8 = .ok (.istore_n 2, 1) := by decide +kernel
theorem d9 : decode yB 9 = .ok (.iload_n 2, 1) := by decide +kernel
theorem d10 : decode yB 10 = .ok (.aload_n 0, 1) := by decide +kernel
theorem d11 : decode yB 11 = .ok (.arraylength, 1) := by decide +kernel
theorem d12 : decode yB 12 = .ok (.if_icmp (.ge) 20, 3) := by decide +kernel
theorem d15 : decode yB 15 = .ok (.aload_n 0, 1) := by decide +kernel
theorem d16 : decode yB 16 = .ok (.iload_n 2, 1) := by decide +kernel
theorem d17 : decode yB 17 = .ok (.baload, 1) := by decide +kernel
theorem d18 : decode yB 18 = .ok (.aload_n 1, 1) := by decide +kernel
theorem d19 : decode yB 19 = .ok (.iload_n 2, 1) := by decide +kernel
theorem d20 : decode yB 20 = .ok (.baload, 1) := by decide +kernel
theorem d21 : decode yB 21 = .ok (.if_icmp (.eq) 5, 3) := by decide +kernel
theorem d24 : decode yB 24 = .ok (.iconst 0, 1) := by decide +kernel
theorem d25 : decode yB 25 = .ok (.ireturn, 1) := by decide +kernel
theorem d26 : decode yB 26 = .ok (.iinc 2 1, 3) := by decide +kernel
theorem d29 : decode yB 29 = .ok (.goto (-20), 3) := by decide +kernel
theorem d32 : decode yB 32 = .ok (.iconst 1, 1) := by decide +kernel
theorem d33 : decode yB 33 = .ok (.ireturn, 1) := by decide +kernel
theorem d34 : decode yB 34 = .ok (.iconst 0, 1) := by decide +kernel
theorem d35 : decode yB 35 = .ok (.ireturn, 1) := by decide +kernel
def site : List Cond := []
def tab : Cond := tabOf yN yB 3 (some .boolean) site
def P (a : Addr) (A : Cell) (b : Addr) (B : Cell) (args : Array Value) (s : State) : Prop := args = #[.ref a, .ref b] ∧ XT.Arr .byte a A s ∧ Typed .byte A ∧ XT.Arr .byte b B s ∧ Typed .byte B
/-- whether two byte[] are equal, place for place -/
theorem law (l : Launch) (a : Addr) (A : Cell) (b : Addr) (B : Cell) : Law l yN 2 2 0 0 yB 3 (some .boolean) site (P a A b B) (Says01 (EqC A B)) [] 0 0 := by
  refine Law.of_walk (plainFor_of_name (by decide +kernel)) (by decide +kernel) (by decide +kernel) (by decide) (fun _ _ h => by rw [h.1]; rfl) (fun _ U U' hal hh h => ⟨h.1, h.2.1.mv hal hh, h.2.2.1, h.2.2.2.1.mv hal hh, h.2.2.2.2⟩) (fun r U U' V V' h1 hal h2 h => Says01.mv r U U' V V' h1 hal h2 h) ?_
  intro p e s m args below meth c s₁ X0 hexec hbytes hml hret hlk hnm hown hh0 W hP
  obtain ⟨rfl, hA, tA, hB, tB⟩ := hP
  have a31 := hA.2.2.2
  have b31 := hB.2.2.2
  have hA0 := hA.mv X0.warmed.alike hh0
  have hB0 := hB.mv X0.warmed.alike hh0
  have c1 : Steps p.tables e below (s₁.setTop (entryFrame m #[.ref a, .ref b] 3)) (s₁.setTop (mkF m 0 #[.val (.ref a), .val (.ref b), .unset] [])) := entry rfl
  have c2 : Steps p.tables e below (s₁.setTop (entryFrame m #[.ref a, .ref b] 3)) (s₁.setTop (mkF m 4 #[.val (.ref a), .val (.ref b), .unset] [.int (Int32.ofNat B.slots.size), .int (Int32.ofNat A.slots.size)])) := c1.trans (by
    refine XS.aloadN X0.here hexec rfl (hb hbytes d0) rfl rfl ?_
    refine X0.alen hexec hA0 rfl rfl (hb hbytes d1) ?_
    refine XS.aloadN X0.here hexec rfl (hb hbytes d2) rfl rfl ?_
    refine X0.alen hexec hB0 rfl rfl (hb hbytes d3) ?_
    exact Steps.refl _)
  by_cases hs : A.slots.size = B.slots.size
  · have c3 : Steps p.tables e below (s₁.setTop (entryFrame m #[.ref a, .ref b] 3)) (s₁.setTop (mkF m 9 #[.val (.ref a), .val (.ref b), .val (.int 0)] [])) := c2.trans (by
      refine XS.icmpNo X0.here hexec rfl (hb hbytes d4) rfl (ii_ne_f (by rw [hs])) ?_
      refine iconstV X0.here hexec rfl 0 (hb hbytes d7) (by decide) ?_
      refine XS.istoreN X0.here hexec rfl (hb hbytes d8) rfl rfl ?_
      exact Steps.refl _)
    have loop : ∀ (r i : Nat), i + r = A.slots.size → (∀ j, j < i → yv A j = yv B j) → Steps p.tables e below (s₁.setTop (entryFrame m #[.ref a, .ref b] 3)) (s₁.setTop (mkF m 9 #[.val (.ref a), .val (.ref b), .val (.int (Int32.ofNat i))] [])) → ∃ (pc : Nat) (Ls : Array Slot) (v : Int32), (pc = 25 ∨ pc = 33) ∧ ((v = 1 ∧ EqC A B) ∨ (v = 0 ∧ ¬ EqC A B)) ∧ Steps p.tables e below (s₁.setTop (entryFrame m #[.ref a, .ref b] 3)) (s₁.setTop (mkF m pc Ls [.int v])) := by
      intro r
      induction r with
      | zero =>
        intro i hi he cl
        exact ⟨33, _, 1, Or.inr rfl, Or.inl ⟨rfl, hs, fun j hj => he j (by omega)⟩, cl.trans (by
          refine XS.iloadN X0.here hexec rfl (hb hbytes d9) rfl ?_
          refine XS.aloadN X0.here hexec rfl (hb hbytes d10) rfl rfl ?_
          refine X0.alen hexec hA0 rfl rfl (hb hbytes d11) ?_
          refine XS.icmpYes X0.here hexec rfl (pc0 := 12) rfl (hb hbytes d12) rfl (ii_ge_t (nlt32 (by omega) (by omega))) (by decide) rfl ?_
          refine iconstV X0.here hexec rfl 1 (hb hbytes d32) (by decide) ?_
          exact Steps.refl _)⟩
      | succ r ih =>
        intro i hi he cl
        have c4 : Steps p.tables e below (s₁.setTop (entryFrame m #[.ref a, .ref b] 3)) (s₁.setTop (mkF m 21 #[.val (.ref a), .val (.ref b), .val (.int (Int32.ofNat i))] [.int (yv B i), .int (yv A i)])) := cl.trans (by
          refine XS.iloadN X0.here hexec rfl (hb hbytes d9) rfl ?_
          refine XS.aloadN X0.here hexec rfl (hb hbytes d10) rfl rfl ?_
          refine X0.alen hexec hA0 rfl rfl (hb hbytes d11) ?_
          refine XS.icmpNo X0.here hexec rfl (hb hbytes d12) rfl (ii_ge_f (lt32 (by omega) (by omega))) ?_
          refine XS.aloadN X0.here hexec rfl (hb hbytes d15) rfl rfl ?_
          refine XS.iloadN X0.here hexec rfl (hb hbytes d16) rfl ?_
          refine X0.aget hexec hA0 rfl (yv_get hA tA (i := i) (by omega)) rfl rfl (hb hbytes d17) ?_
          refine XS.aloadN X0.here hexec rfl (hb hbytes d18) rfl rfl ?_
          refine XS.iloadN X0.here hexec rfl (hb hbytes d19) rfl ?_
          refine X0.aget hexec hB0 rfl (yv_get hB tB (i := i) (by omega)) rfl rfl (hb hbytes d20) ?_
          exact Steps.refl _)
        by_cases hv : yv A i = yv B i
        · have c5 : Steps p.tables e below (s₁.setTop (entryFrame m #[.ref a, .ref b] 3)) (s₁.setTop (mkF m 9 #[.val (.ref a), .val (.ref b), .val (.int (Int32.ofNat i + 1))] [])) := c4.trans (by
            refine XS.icmpYes X0.here hexec rfl (pc0 := 21) rfl (hb hbytes d21) rfl (ii_eq_t hv) (by decide) rfl ?_
            refine iincV X0.here hexec rfl 1 (hb hbytes d26) (by decide) rfl rfl ?_
            refine XS.goto X0.here hexec rfl (pc0 := 29) rfl (hb hbytes d29) (by decide) rfl ?_
            exact Steps.refl _)
          rw [succ32] at c5
          exact ih (i + 1) (by omega) (fun j hj => by
            by_cases e : j = i
            · rw [e]; exact hv
            · exact he j (by omega)) c5
        · exact ⟨25, _, 0, Or.inl rfl, Or.inr ⟨rfl, fun q => hv (q.2 i (by omega))⟩, c4.trans (by
            refine XS.icmpNo X0.here hexec rfl (hb hbytes d21) rfl (ii_eq_f hv) ?_
            refine iconstV X0.here hexec rfl 0 (hb hbytes d24) (by decide) ?_
            exact Steps.refl _)⟩
    obtain ⟨pc, Ls, v, hpc, hv, cz⟩ := loop A.slots.size 0 (by omega) (fun j hj => absurd hj (Nat.not_lt_zero j)) c3
    have nv : narrow .boolean (.int v) = .int v := by rcases hv with ⟨rfl, -⟩ | ⟨rfl, -⟩ <;> rfl
    rcases hpc with rfl | rfl
    · exact ⟨s₁, some (.int v), _, _, _, X0, rfl, rfl, rfl, (fun h => by cases h), ⟨v, rfl, hh0, hv⟩, fun fs hl => cz.trans (X0.ireturnOut hexec hret nv (Or.inr (Or.inl rfl)) (hb hbytes d25) hl)⟩
    · exact ⟨s₁, some (.int v), _, _, _, X0, rfl, rfl, rfl, (fun h => by cases h), ⟨v, rfl, hh0, hv⟩, fun fs hl => cz.trans (X0.ireturnOut hexec hret nv (Or.inr (Or.inl rfl)) (hb hbytes d33) hl)⟩
  · have c3 : Steps p.tables e below (s₁.setTop (entryFrame m #[.ref a, .ref b] 3)) (s₁.setTop (mkF m 35 #[.val (.ref a), .val (.ref b), .unset] [.int 0])) := c2.trans (by
      refine XS.icmpYes X0.here hexec rfl (pc0 := 4) rfl (hb hbytes d4) rfl (ii_ne_t (ne32 a31 b31 hs)) (by decide) rfl ?_
      refine iconstV X0.here hexec rfl 0 (hb hbytes d34) (by decide) ?_
      exact Steps.refl _)
    exact ⟨s₁, some (.int 0), _, _, _, X0, rfl, rfl, rfl, (fun h => by cases h), ⟨0, rfl, hh0, Or.inr ⟨rfl, fun q => hs q.1⟩⟩, fun fs hl => c3.trans (X0.ireturnOut hexec hret rfl (Or.inr (Or.inl rfl)) (hb hbytes d35) hl)⟩
end LEq
theorem Cod.ty {cd : Int32} {n : Nat} {f : Nat → Int32} {V : Cell} (h : Cod cd n f V) : Typed .byte V := fun i v hv => by
  have hi : i < V.slots.size := (Array.getElem?_eq_some_iff.mp hv).1
  rcases h with ⟨-, k1, k2⟩ | ⟨-, k1, k2, -⟩
  · rw [(k2 i (by omega)).1] at hv; cases hv; exact fits_lo8 _
  · rcases Nat.mod_two_eq_zero_or_one i with e | e
    · obtain ⟨j, rfl⟩ : ∃ j, i = 2 * j := ⟨i / 2, by omega⟩
      rw [(k2 j (by omega)).1] at hv; cases hv; exact fits_lo8 _
    · obtain ⟨j, rfl⟩ : ∃ j, i = 2 * j + 1 := ⟨i / 2, by omega⟩
      rw [(k2 j (by omega)).2] at hv; cases hv; exact fits_lo8 _
/-- the same text -/
def SameT (n : Nat) (f : Nat → Int32) (k : Nat) (g : Nat → Int32) : Prop := n = k ∧ ∀ j, j < n → f j = g j
theorem lo8_inj {x y : Int32} (h0 : ¬ x < 0) (h1 : ¬ 255 < x) (k0 : ¬ y < 0) (k1 : ¬ 255 < y) (h : lo8 x = lo8 y) : x = y := by
  rw [← lo8_mask h0 h1, ← lo8_mask k0 k1, h]
/-- arrays coded by one coder are equal just where the texts are -/
theorem Cod.eqv {cd : Int32} {n k : Nat} {f g : Nat → Int32} {V V' : Cell} (h : Cod cd n f V) (h' : Cod cd k g V') (hf : ∀ j, j < n → ¬ f j < 0 ∧ ¬ 65535 < f j) (hg : ∀ j, j < k → ¬ g j < 0 ∧ ¬ 65535 < g j) : EqC V V' ↔ SameT n f k g := by
  have yvv : ∀ {W : Cell} {i : Nat} {x : Int32}, W.slots[i]? = some (.int x) → yv W i = x := fun q => by unfold yv; rw [q]
  rcases h with ⟨rfl, k1, k2⟩ | ⟨rfl, k1, k2, -⟩
  · rcases h' with ⟨-, m1, m2⟩ | ⟨e, -⟩
    · constructor
      · rintro ⟨e1, e2⟩
        refine ⟨by omega, fun j hj => ?_⟩
        have q := e2 j (by omega)
        rw [yvv (k2 j hj).1, yvv (m2 j (by omega)).1] at q
        exact lo8_inj (hf j hj).1 (k2 j hj).2 (hg j (by omega)).1 (m2 j (by omega)).2 q
      · rintro ⟨rfl, e2⟩
        refine ⟨by omega, fun j hj => ?_⟩
        rw [yvv (k2 j (by omega)).1, yvv (m2 j (by omega)).1, e2 j (by omega)]
    · exact absurd e (by decide)
  · rcases h' with ⟨e, -⟩ | ⟨-, m1, m2, -⟩
    · exact absurd e (by decide)
    · constructor
      · rintro ⟨e1, e2⟩
        refine ⟨by omega, fun j hj => ?_⟩
        have q1 := e2 (2 * j) (by omega)
        have q2 := e2 (2 * j + 1) (by omega)
        rw [yvv (k2 j hj).1, yvv (m2 j (by omega)).1] at q1
        rw [yvv (k2 j hj).2, yvv (m2 j (by omega)).2] at q2
        rw [← pair_says (hf j hj).1 (hf j hj).2, ← pair_says (hg j (by omega)).1 (hg j (by omega)).2, q1, q2]
      · rintro ⟨rfl, e2⟩
        refine ⟨by omega, fun i hi => ?_⟩
        rcases Nat.mod_two_eq_zero_or_one i with e | e
        · obtain ⟨j, rfl⟩ : ∃ j, i = 2 * j := ⟨i / 2, by omega⟩
          rw [yvv (k2 j (by omega)).1, yvv (m2 j (by omega)).1, e2 j (by omega)]
        · obtain ⟨j, rfl⟩ : ∃ j, i = 2 * j + 1 := ⟨i / 2, by omega⟩
          rw [yvv (k2 j (by omega)).2, yvv (m2 j (by omega)).2, e2 j (by omega)]
/-- two codings differ: so do the texts -/
theorem Cod.dif {cd cd' : Int32} {n k : Nat} {f g : Nat → Int32} {V V' : Cell} (h : Cod cd n f V) (h' : Cod cd' k g V') (hne : ¬ cd = cd') : ¬ SameT n f k g := by
  rintro ⟨rfl, e⟩
  rcases h with ⟨rfl, -, k2⟩ | ⟨rfl, -, -, j, hj, hw⟩
  · rcases h' with ⟨rfl, -⟩ | ⟨-, -, -, j, hj, hw⟩
    · exact hne rfl
    · exact (k2 j hj).2 (by rw [e j hj]; exact hw)
  · rcases h' with ⟨-, -, m2⟩ | ⟨rfl, -⟩
    · exact (m2 j hj).2 (by rw [← e j hj]; exact hw)
    · exact hne rfl
/-- an object of exactly C is an instance of C -/
theorem cinst {p : Program} {l : Launch} {e : Env} {R : Room} {s : State} {m : MethodId} {args : Array Value} {below : List Frame} {meth : Method} {c : Code} {T : State} {locs : List Loc} {cells slots : Nat} (X : Stand p l e R s m args below meth c T locs cells slots) (hexec : p.tables.exec = Jvm.exec) {own C : String} {index : Nat} (hown : s.vm.findClass own = some m.cls) (hlink : (Cond.classLink own index C).before args s = true) {a : Addr} (hE : Exact C a T)
    {g : JFrame} (hg : g.method = m) {rest : List Value} (hstack : g.stack = .ref a :: rest) (hdg : decode c.code g.pc = .ok (.instanceof index, 3)) :
    ∃ T', Stand p l e R s m args below meth c T' locs cells slots ∧ T'.heap = T.heap ∧ ∀ target, Steps p.tables e below (T'.setTop { g with pc := g.pc + 3, stack := .int 1 :: rest }) target → Steps p.tables e below (T.setTop g) target := by
  obtain ⟨cB, h1, D, h2, h3, h4⟩ := hE
  have h1' : s.vm.findClass C = some cB := by rw [← X.warmed.alike.findClass]; exact h1
  obtain ⟨vm', X', st⟩ := X.instanceofYes hexec hown hlink h2 h4 h1' (by rw [h3]; exact Jvm.Free.SB.assignable_self _ _) hg hstack hdg
  exact ⟨_, X', rfl, st⟩
theorem cself {p : Program} {l : Launch} {e : Env} {R : Room} {s : State} {m : MethodId} {args : Array Value} {below : List Frame} {meth : Method} {c : Code} {T : State} {locs : List Loc} {cells slots : Nat} (X : Stand p l e R s m args below meth c T locs cells slots) (hexec : p.tables.exec = Jvm.exec) {own C : String} {index : Nat} (hown : s.vm.findClass own = some m.cls) (hlink : (Cond.classLink own index C).before args s = true) {a : Addr} (hE : Exact C a T)
    {g : JFrame} (hg : g.method = m) {rest : List Value} (hstack : g.stack = .ref a :: rest) (hdg : decode c.code g.pc = .ok (.checkcast index, 3)) :
    ∃ T', Stand p l e R s m args below meth c T' locs cells slots ∧ T'.heap = T.heap ∧ ∀ target, Steps p.tables e below (T'.setTop { g with pc := g.pc + 3, stack := .ref a :: rest }) target → Steps p.tables e below (T.setTop g) target := by
  obtain ⟨cB, h1, D, h2, h3, h4⟩ := hE
  have h1' : s.vm.findClass C = some cB := by rw [← X.warmed.alike.findClass]; exact h1
  obtain ⟨vm', X', st⟩ := X.checkcastYes hexec hown hlink h2 h4 h1' (by rw [h3]; exact Jvm.Free.SB.assignable_self _ _) hg hstack hdg
  exact ⟨_, X', rfl, fun t h => st t (by rw [← hstack] at h; exact h)⟩
namespace SEq
def yN : MethodName := ⟨"java/lang/String", "equals", "(Ljava/lang/Object;)Z"⟩
abbrev yB : ByteArray := jdk_42_method_66_code
theorem d0 : decode yB 0 = .ok (.aload_n 0, 1) := by decide +kernel
theorem d1 : decode yB 1 = .ok (.aload_n 1, 1) := by decide +kernel
theorem d2 : decode yB 2 = .ok (.if_acmp (.ne) 5, 3) := by decide +kernel
theorem d5 : decode yB 5 = .ok (.iconst 1, 1) := by decide +kernel
theorem d6 : decode yB 6 = .ok (.ireturn, 1) := by decide +kernel
theorem d7 : decode yB 7 = .ok (.aload_n 1, 1) := by decide +kernel
theorem d8 : decode yB 8 = .ok (.instanceof 10, 3) := by decide +kernel
theorem d11 : decode yB 11 = .ok (.ifCond (.eq) 43, 3) := by decide +kernel
theorem d14 : decode yB 14 = .ok (.aload_n 1, 1) := by decide +kernel
theorem d15 : decode yB 15 = .ok (.checkcast 10, 3) := by decide +kernel
theorem d18 : decode yB 18 = .ok (.astore_n 2, 1) := by decide +kernel
theorem d19 : decode yB 19 = .ok (.getstatic 38, 3) := by decide +kernel
theorem d22 : decode yB 22 = .ok (.ifCond (.eq) 14, 3) := by decide +kernel
theorem d25 : decode yB 25 = .ok (.aload_n 0, 1) := by decide +kernel
theorem d26 : decode yB 26 = .ok (.getfield 15, 3) := by decide +kernel
theorem d29 : decode yB 29 = .ok (.aload_n 2, 1) := by decide +kernel
theorem d30 : decode yB 30 = .ok (.getfield 15, 3) := by decide +kernel
theorem d33 : decode yB 33 = .ok (.if_icmp (.ne) 21, 3) := by decide +kernel
theorem d36 : decode yB 36 = .ok (.aload_n 0, 1) := by decide +kernel
theorem d37 : decode yB 37 = .ok (.getfield 9, 3) := by decide +kernel
theorem d40 : decode yB 40 = .ok (.aload_n 2, 1) := by decide +kernel
theorem d41 : decode yB 41 = .ok (.getfield 9, 3) := by decide +kernel
theorem d44 : decode yB 44 = .ok (.invokestatic 541, 3) := by decide +kernel
theorem d47 : decode yB 47 = .ok (.ifCond (.eq) 7, 3) := by decide +kernel
theorem d50 : decode yB 50 = .ok (.iconst 1, 1) := by decide +kernel
theorem d51 : decode yB 51 = .ok (.goto 4, 3) := by decide +kernel
theorem d54 : decode yB 54 = .ok (.iconst 0, 1) := by decide +kernel
theorem d55 : decode yB 55 = .ok (.ireturn, 1) := by decide +kernel
def site : List Cond := [.classLink "java/lang/String" 10 "java/lang/String", .fieldLink "java/lang/String" 38 "java/lang/String" "COMPACT_STRINGS" "Z", .fieldLink "java/lang/String" 15 "java/lang/String" "coder" "B", .fieldLink "java/lang/String" 9 "java/lang/String" "value" "[B", LEq.tab] ++ staticW "java/lang/String" 541 LEq.yN
def tab : Cond := tabOf yN yB 3 (some .boolean) site
def P (x t : Addr) (V : Cell) (cd : Int32) (n : Nat) (f : Nat → Int32) (y t' : Addr) (V' : Cell) (cd' : Int32) (k : Nat) (g : Nat → Int32) (z : Int32) (args : Array Value) (s : State) : Prop := args = #[.ref x, .ref y] ∧ Txt x t V cd n f s ∧ Txt y t' V' cd' k g s ∧ StaticIs s "java/lang/String" "COMPACT_STRINGS" "Z" (.int z) ∧ ¬ z = 0
/-- equals(Object) of two Strings: whether the texts are the same -/
theorem law (l : Launch) (x t : Addr) (V : Cell) (cd : Int32) (n : Nat) (f : Nat → Int32) (y t' : Addr) (V' : Cell) (cd' : Int32) (k : Nat) (g : Nat → Int32) (z : Int32) : Law l yN 2 1 1 14 yB 3 (some .boolean) site (P x t V cd n f y t' V' cd' k g z) (Says01 (SameT n f k g)) [] 0 0 := by
  refine Law.of_walk (plainFor_of_name (by decide +kernel)) (by decide +kernel) (by decide +kernel) (by decide) (fun _ _ h => by rw [h.1]; rfl) (fun _ U U' hal hh h => ⟨h.1, h.2.1.mv hal hh, h.2.2.1.mv hal hh, h.2.2.2.1.there hal hh, h.2.2.2.2⟩) (fun r U U' V V' h1 hal h2 h => Says01.mv r U U' V V' h1 hal h2 h) ?_
  intro p e s m args below meth c s₁ X0 hexec hbytes hml hret hlk hnm hown hh0 W hP
  obtain ⟨rfl, hx, hy, s1, hz⟩ := hP
  have c1 : Steps p.tables e below (s₁.setTop (entryFrame m #[.ref x, .ref y] 3)) (s₁.setTop (mkF m 2 #[.val (.ref x), .val (.ref y), .unset] [.ref y, .ref x])) := Steps.trans (entry rfl) (by
    show Steps p.tables e below (s₁.setTop (mkF m 0 #[.val (.ref x), .val (.ref y), .unset] [])) _
    refine XS.aloadN X0.here hexec rfl (hb hbytes d0) rfl rfl ?_
    refine XS.aloadN X0.here hexec rfl (hb hbytes d1) rfl rfl ?_
    exact Steps.refl _)
  by_cases hxy : x = y
  · have c2 : Steps p.tables e below (s₁.setTop (entryFrame m #[.ref x, .ref y] 3)) (s₁.setTop (mkF m 6 #[.val (.ref x), .val (.ref y), .unset] [.int 1])) := c1.trans (by
      refine acmpNo X0.here hexec rfl (hb hbytes d2) rfl rfl rfl (by simp [acmp, hxy]) ?_
      refine iconstV X0.here hexec rfl 1 (hb hbytes d5) (by decide) ?_
      exact Steps.refl _)
    subst hxy
    have ec : cd = cd' := by
      obtain ⟨D, fd, a1, a2, a3⟩ := hx.2.2.1
      obtain ⟨D', fd', b1, b2, b3⟩ := hy.2.2.1
      cases a1.symm.trans b1
      obtain ⟨q1, q2, q3, q4⟩ := a2.1
      obtain ⟨r1, r2, r3, r4⟩ := b2.1
      cases q4.symm.trans r4
      cases a3.symm.trans b3; rfl
    have et : t = t' := by
      obtain ⟨D, fd, a1, a2, a3⟩ := hx.2.1
      obtain ⟨D', fd', b1, b2, b3⟩ := hy.2.1
      cases a1.symm.trans b1
      obtain ⟨q1, q2, q3, q4⟩ := a2.1
      obtain ⟨r1, r2, r3, r4⟩ := b2.1
      cases q4.symm.trans r4
      cases a3.symm.trans b3; rfl
    subst ec et
    have ev : V = V' := by cases hx.2.2.2.1.1.symm.trans hy.2.2.2.1.1; rfl
    subst ev
    have hs : SameT n f k g := (Cod.eqv hx.2.2.2.2.1 hy.2.2.2.2.1 hx.2.2.2.2.2 hy.2.2.2.2.2).mp ⟨rfl, fun _ _ => rfl⟩
    exact ⟨s₁, some (.int 1), _, _, _, X0, rfl, rfl, rfl, (fun h => by cases h), ⟨1, rfl, hh0, Or.inl ⟨rfl, hs⟩⟩, fun fs hl => c2.trans (X0.ireturnOut hexec hret rfl (Or.inr (Or.inl rfl)) (hb hbytes d6) hl)⟩
  · have c2 : Steps p.tables e below (s₁.setTop (entryFrame m #[.ref x, .ref y] 3)) (s₁.setTop (mkF m 8 #[.val (.ref x), .val (.ref y), .unset] [.ref y])) := c1.trans (by
      refine acmpYes X0.here hexec rfl (pc0 := 2) rfl (hb hbytes d2) rfl rfl rfl (by simp [acmp, hxy]) (by decide) rfl ?_
      refine XS.aloadN X0.here hexec rfl (hb hbytes d7) rfl rfl ?_
      exact Steps.refl _)
    obtain ⟨T3, X3, q3, st3⟩ := cinst X0 hexec hown (wk W (.classLink "java/lang/String" 10 "java/lang/String")) (hy.mv X0.warmed.alike hh0).1 (g := (mkF m 8 #[.val (.ref x), .val (.ref y), .unset] [.ref y])) rfl (rest := []) rfl (hb hbytes d8)
    have hh3 := q3.trans hh0
    have c4 : Steps p.tables e below (s₁.setTop (entryFrame m #[.ref x, .ref y] 3)) (T3.setTop (mkF m 15 #[.val (.ref x), .val (.ref y), .unset] [.ref y])) := (c2.trans (st3 _ (Steps.refl _))).trans (by
      refine XS.ifNo X3.here hexec rfl (hb hbytes d11) rfl (i0_eq_f (by decide)) ?_
      refine XS.aloadN X3.here hexec rfl (hb hbytes d14) rfl rfl ?_
      exact Steps.refl _)
    obtain ⟨T5, X5, q5, st5⟩ := cself X3 hexec hown (wk W (.classLink "java/lang/String" 10 "java/lang/String")) (hy.mv X3.warmed.alike hh3).1 (g := (mkF m 15 #[.val (.ref x), .val (.ref y), .unset] [.ref y])) rfl (rest := []) rfl (hb hbytes d15)
    have hh5 := q5.trans hh3
    have c6 : Steps p.tables e below (s₁.setTop (entryFrame m #[.ref x, .ref y] 3)) (T5.setTop (mkF m 19 #[.val (.ref x), .val (.ref y), .val (.ref y)] [])) := (c4.trans (st5 _ (Steps.refl _))).trans (by
      refine XS.astoreN X5.here hexec rfl (hb hbytes d18) rfl rfl rfl ?_
      exact Steps.refl _)
    obtain ⟨T7, X7, q7, st7⟩ := X5.sget hexec hown (wk W (.fieldLink "java/lang/String" 38 "java/lang/String" "COMPACT_STRINGS" "Z")) s1 (fun _ _ h => by rw [hh5]; exact h) (g := (mkF m 19 #[.val (.ref x), .val (.ref y), .val (.ref y)] [])) rfl (hb hbytes d19)
    have hh7 := q7.trans hh5
    have c8 : Steps p.tables e below (s₁.setTop (entryFrame m #[.ref x, .ref y] 3)) (T7.setTop (mkF m 26 #[.val (.ref x), .val (.ref y), .val (.ref y)] [.ref x])) := (c6.trans (st7 _ (Steps.refl _))).trans (by
      refine XS.ifNo X7.here hexec rfl (hb hbytes d22) rfl (i0_eq_f hz) ?_
      refine XS.aloadN X7.here hexec rfl (hb hbytes d25) rfl rfl ?_
      exact Steps.refl _)
    obtain ⟨T9, X9, q9, st9⟩ := X7.hget hexec hown (wk W (.fieldLink "java/lang/String" 15 "java/lang/String" "coder" "B")) (hx.mv X7.warmed.alike hh7).2.2.1 (g := (mkF m 26 #[.val (.ref x), .val (.ref y), .val (.ref y)] [.ref x])) rfl (rest := []) rfl (hb hbytes d26)
    have hh9 := q9.trans hh7
    have c10 : Steps p.tables e below (s₁.setTop (entryFrame m #[.ref x, .ref y] 3)) (T9.setTop (mkF m 30 #[.val (.ref x), .val (.ref y), .val (.ref y)] [.ref y, .int cd])) := (c8.trans (st9 _ (Steps.refl _))).trans (by
      refine XS.aloadN X9.here hexec rfl (hb hbytes d29) rfl rfl ?_
      exact Steps.refl _)
    obtain ⟨T11, X11, q11, st11⟩ := X9.hget hexec hown (wk W (.fieldLink "java/lang/String" 15 "java/lang/String" "coder" "B")) (hy.mv X9.warmed.alike hh9).2.2.1 (g := (mkF m 30 #[.val (.ref x), .val (.ref y), .val (.ref y)] [.ref y, .int cd])) rfl (rest := [.int cd]) rfl (hb hbytes d30)
    have hh11 := q11.trans hh9
    have c12 : Steps p.tables e below (s₁.setTop (entryFrame m #[.ref x, .ref y] 3)) (T11.setTop (mkF m 33 #[.val (.ref x), .val (.ref y), .val (.ref y)] [.int cd', .int cd])) := c10.trans (st11 _ (Steps.refl _))
    by_cases hcd : cd = cd'
    · subst hcd
      have c13 : Steps p.tables e below (s₁.setTop (entryFrame m #[.ref x, .ref y] 3)) (T11.setTop (mkF m 37 #[.val (.ref x), .val (.ref y), .val (.ref y)] [.ref x])) := c12.trans (by
        refine XS.icmpNo X11.here hexec rfl (hb hbytes d33) rfl (ii_ne_f rfl) ?_
        refine XS.aloadN X11.here hexec rfl (hb hbytes d36) rfl rfl ?_
        exact Steps.refl _)
      obtain ⟨T14, X14, q14, st14⟩ := X11.hget hexec hown (wk W (.fieldLink "java/lang/String" 9 "java/lang/String" "value" "[B")) (hx.mv X11.warmed.alike hh11).2.1 (g := (mkF m 37 #[.val (.ref x), .val (.ref y), .val (.ref y)] [.ref x])) rfl (rest := []) rfl (hb hbytes d37)
      have hh14 := q14.trans hh11
      have c15 : Steps p.tables e below (s₁.setTop (entryFrame m #[.ref x, .ref y] 3)) (T14.setTop (mkF m 41 #[.val (.ref x), .val (.ref y), .val (.ref y)] [.ref y, .ref t])) := (c13.trans (st14 _ (Steps.refl _))).trans (by
        refine XS.aloadN X14.here hexec rfl (hb hbytes d40) rfl rfl ?_
        exact Steps.refl _)
      obtain ⟨T16, X16, q16, st16⟩ := X14.hget hexec hown (wk W (.fieldLink "java/lang/String" 9 "java/lang/String" "value" "[B")) (hy.mv X14.warmed.alike hh14).2.1 (g := (mkF m 41 #[.val (.ref x), .val (.ref y), .val (.ref y)] [.ref y, .ref t])) rfl (rest := [.ref t]) rfl (hb hbytes d41)
      have hh16 := q16.trans hh14
      have c17 : Steps p.tables e below (s₁.setTop (entryFrame m #[.ref x, .ref y] 3)) (T16.setTop (mkF m 44 #[.val (.ref x), .val (.ref y), .val (.ref y)] [.ref t', .ref t])) := c15.trans (st16 _ (Steps.refl _))
      obtain ⟨v18, T18, X18, E18, g18⟩ := X16.callS hexec (LEq.law l t V t' V') hown (wks W (staticW "java/lang/String" 541 LEq.yN)) (wk W LEq.tab) (W := 0) (Nat.le_of_ble_eq_true rfl) (Nat.le_of_ble_eq_true rfl) (Nat.le_refl _) (Nat.le_refl _) (g := (mkF m 44 #[.val (.ref x), .val (.ref y), .val (.ref y)] [.ref t', .ref t])) rfl (by rw [hml]; rfl) c17 (argsL := [.ref t, .ref t']) (rest := []) rfl rfl (by show 2 * 0 + 0 ≤ _; decide) (hb hbytes d44) (⟨rfl, hx.2.2.2.1.mv X16.warmed.alike hh16, hx.2.2.2.2.1.ty, hy.2.2.2.1.mv X16.warmed.alike hh16, hy.2.2.2.2.1.ty⟩)
      obtain ⟨v, rfl, q18, hv⟩ := E18
      have iff := Cod.eqv hx.2.2.2.2.1 hy.2.2.2.2.1 hx.2.2.2.2.2 hy.2.2.2.2.2
      rcases hv with ⟨rfl, he⟩ | ⟨rfl, he⟩
      · have c19 : Steps p.tables e below (s₁.setTop (entryFrame m #[.ref x, .ref y] 3)) (T18.setTop (mkF m 55 #[.val (.ref x), .val (.ref y), .val (.ref y)] [.int 1])) := Steps.trans g18 (by
          refine XS.ifNo X18.here hexec rfl (hb hbytes d47) rfl (i0_eq_f (by decide)) ?_
          refine iconstV X18.here hexec rfl 1 (hb hbytes d50) (by decide) ?_
          refine XS.goto X18.here hexec rfl (pc0 := 51) rfl (hb hbytes d51) (by decide) rfl ?_
          exact Steps.refl _)
        exact ⟨T18, some (.int 1), _, _, _, X18, rfl, rfl, rfl, (fun h => by cases h), ⟨1, rfl, q18.trans hh16, Or.inl ⟨rfl, iff.mp he⟩⟩, fun fs hl => c19.trans (X18.ireturnOut hexec hret rfl (Or.inr (Or.inl rfl)) (hb hbytes d55) hl)⟩
      · have c19 : Steps p.tables e below (s₁.setTop (entryFrame m #[.ref x, .ref y] 3)) (T18.setTop (mkF m 55 #[.val (.ref x), .val (.ref y), .val (.ref y)] [.int 0])) := Steps.trans g18 (by
          refine XS.ifYes X18.here hexec rfl (pc0 := 47) rfl (hb hbytes d47) rfl (i0_eq_t rfl) (by decide) rfl ?_
          refine iconstV X18.here hexec rfl 0 (hb hbytes d54) (by decide) ?_
          exact Steps.refl _)
        exact ⟨T18, some (.int 0), _, _, _, X18, rfl, rfl, rfl, (fun h => by cases h), ⟨0, rfl, q18.trans hh16, Or.inr ⟨rfl, fun q => he (iff.mpr q)⟩⟩, fun fs hl => c19.trans (X18.ireturnOut hexec hret rfl (Or.inr (Or.inl rfl)) (hb hbytes d55) hl)⟩
    · have c13 : Steps p.tables e below (s₁.setTop (entryFrame m #[.ref x, .ref y] 3)) (T11.setTop (mkF m 55 #[.val (.ref x), .val (.ref y), .val (.ref y)] [.int 0])) := c12.trans (by
        refine XS.icmpYes X11.here hexec rfl (pc0 := 33) rfl (hb hbytes d33) rfl (ii_ne_t hcd) (by decide) rfl ?_
        refine iconstV X11.here hexec rfl 0 (hb hbytes d54) (by decide) ?_
        exact Steps.refl _)
      exact ⟨T11, some (.int 0), _, _, _, X11, rfl, rfl, rfl, (fun h => by cases h), ⟨0, rfl, hh11, Or.inr ⟨rfl, Cod.dif hx.2.2.2.2.1 hy.2.2.2.2.1 hcd⟩⟩, fun fs hl => c13.trans (X11.ireturnOut hexec hret rfl (Or.inr (Or.inl rfl)) (hb hbytes d55) hl)⟩
theorem pays {l : Launch} {R : Room} {p : Program} {e : Env} {below : List Frame} {s : State} {sargs : Array Value} {len W : Nat} (x t : Addr) (V : Cell) (cd : Int32) (n : Nat) (f : Nat → Int32) (y t' : Addr) (V' : Cell) (cd' : Int32) (k : Nat) (g : Nat → Int32) (z : Int32) (htab : tab.before sargs s = true) (hfr : 2 ≤ R.frames) (hlo : W + 28 ≤ R.locals) :
    Back l R p e below s sargs yN len W (fun A₁ a₁ => A₁.cells + 0 ≤ R.cells ∧ A₁.slots + 0 ≤ R.slots ∧ P x t V cd n f y t' V' cd' k g z a₁ A₁.U) (fun A₁ _ v₁ B₁ => Says01 (SameT n f k g) v₁ A₁.U B₁.U ∧ B₁.locs = A₁.locs ++ [] ∧ B₁.cells = A₁.cells + 0 ∧ B₁.slots = A₁.slots + 0) :=
  (law l x t V cd n f y t' V' cd' k g z).pays htab hfr (by omega)
end SEq
end StrChars
namespace StrChars.Road
open Jvm Sem ClassFile Op Lib Jvm.Stand Jvm.Free Jvm.Free.XT
open Jvm.Lib.Cold (StaticIs)
/-- the words of String.equals(Object) -/
abbrev wordsEq : List Jvm.Cond := [.code SEq.yN SEq.yB 3 (some .boolean), .initialized ST, .classLink ST 10 ST, .fieldLink ST 38 ST "COMPACT_STRINGS" "Z", .fieldLink ST 15 ST "coder" "B", .fieldLink ST 9 ST "value" "[B", .methodLink ST 541 LEq.yN, .static LEq.yN, .code LEq.yN LEq.yB 3 (some .boolean), .initialized "java/lang/StringLatin1"]
theorem tabEq_of {a : Array Value} {s : State} (h : ∀ w ∈ wordsEq, w.before a s = true) : SEq.tab.before a s = true := by
  have hl : LEq.tab.before a s = true := unparts (wk h (.code LEq.yN LEq.yB 3 (some .boolean))) (wks h (.initialized LEq.yN.cls :: LEq.site))
  have q := consq hl h
  exact unparts (wk q (.code SEq.yN SEq.yB 3 (some .boolean))) (wks q (.initialized SEq.yN.cls :: SEq.site))
theorem movedEq {Z s : State} {a0 args : Array Value} (hZ : Z.Warmed39 s.vm) (hw : ∀ d ∈ wordsEq, d.before a0 Z = true) : ∀ d ∈ wordsEq, d.before args s = true := fun d hd => by
  have t : ∀ d ∈ wordsEq, (d.onTables && d.keepsFace) = true := by decide +kernel
  exact RoadKit.mv hZ (hw d hd) (t d hd)
/-- the road's facts of a String, as the laws ask it -/
theorem txt_of {Z U : State} {a0 : Array Value} {kI : Nat} (wi : (Jvm.Cond.instantiable ST kI).before a0 Z = true) (al : Z.vm.Alike U.vm) {x t : Addr} {kb : ClassId} {cs : List Int32} {cd N2 : Int32} {vs : List Value} (E : RoadKit.Exa Z U.heap x ST) (V : RoadKit.Fld Z U.heap x ST "value" "[B" (.ref t)) (C : RoadKit.Fld Z U.heap x ST "coder" "B" (.int cd)) (K : RoadKit.Arv Z U.heap t kb .byte N2 vs (.int 0)) (hc : CodA cs cd N2 vs) (hb : ∀ c ∈ cs, ¬ c < 0 ∧ ¬ (65535 : Int32) < c) (l2 : cs.length ≤ 4000) :
    ∃ A, Txt x t A cd cs.length (fun j => cs.getD j 0) U := by
  obtain ⟨A, K1, K2, K3, K4, K5, K6⟩ := K
  have hcod := hc.cod (by omega) K3 K5
  obtain ⟨D, fV, fC, hB, F1, F2, g1, g2, -, -⟩ := strObj wi al E V C
  exact ⟨A, ⟨_, hB.2.2.1, D, hB.1, rfl, by cases q : D.vm <;> first | rfl | exact absurd q (hB.2.1.2 _)⟩, Has.of hB F1 g1, Has.of hB F2 g2, ⟨K1.1, State.isArrayOf_alike al K1.2.1, K1.2.2, by rcases hcod with ⟨-, q, -⟩ | ⟨-, q, -⟩ <;> omega⟩, hcod, fun j hj => by
    have e : cs.getD j 0 = cs[j] := by simp [List.getD_eq_getElem?_getD, hj]
    show ¬ cs.getD j 0 < 0 ∧ ¬ 65535 < cs.getD j 0
    rw [e]; exact hb _ (List.getElem_mem _)⟩
theorem same_list (cs ds : List Int32) : SameT cs.length (fun j => cs.getD j 0) ds.length (fun j => ds.getD j 0) ↔ cs = ds := by
  constructor
  · rintro ⟨e, q⟩
    refine List.ext_getElem e fun j h1 h2 => ?_
    have := q j h1
    simpa [List.getD_eq_getElem?_getD, h1, h2] using this
  · rintro rfl
    exact ⟨rfl, fun _ _ => rfl⟩
/-- **equals(Object) OF TWO SUCH STRINGS**: 1 just where the chars are the same -/
theorem eqW {p : Program} {l : Launch} {e : Env} {R : Room} {s : State} {args : Array Value} {below : List Frame} {len W : Nat} {Z : State} {a0 : Array Value} {h : Heap} (hZ : Z.Warmed39 s.vm) (hw : ∀ d ∈ wordsEq, d.before a0 Z = true) {kI : Nat} (wi : (Jvm.Cond.instantiable ST kI).before a0 Z = true)
    {x t : Addr} {kb : ClassId} {cs : List Int32} {cd N2 : Int32} {vs : List Value} (E : RoadKit.Exa Z h x ST) (V : RoadKit.Fld Z h x ST "value" "[B" (.ref t)) (C : RoadKit.Fld Z h x ST "coder" "B" (.int cd)) (K : RoadKit.Arv Z h t kb .byte N2 vs (.int 0)) (hc : CodA cs cd N2 vs) (hb : ∀ c ∈ cs, ¬ c < 0 ∧ ¬ (65535 : Int32) < c) (l2 : cs.length ≤ 4000)
    {y t' : Addr} {kb' : ClassId} {ds : List Int32} {cd' N2' : Int32} {vs' : List Value} (E' : RoadKit.Exa Z h y ST) (V' : RoadKit.Fld Z h y ST "value" "[B" (.ref t')) (C' : RoadKit.Fld Z h y ST "coder" "B" (.int cd')) (K' : RoadKit.Arv Z h t' kb' .byte N2' vs' (.int 0)) (hc' : CodA ds cd' N2' vs') (hb' : ∀ c ∈ ds, ¬ c < 0 ∧ ¬ (65535 : Int32) < c) (l2' : ds.length ≤ 4000)
    {z : Int32} (S : RoadKit.Sta Z h ST "COMPACT_STRINGS" "Z" (.int z)) (hz : ¬ z = 0) (hfr : 2 ≤ R.frames) (hlo : W + 28 ≤ R.locals) :
    Back l R p e below s args (⟨"java/lang/String", "equals", "(Ljava/lang/Object;)Z"⟩ : MethodName) len W (fun P a => a = #[.ref x, .ref y] ∧ P.U.heap = h ∧ P.cells + 0 ≤ R.cells ∧ P.slots + 0 ≤ R.slots)
      (fun P _ v B => ∃ L, (((v = some (.int 1) ∧ cs = ds) ∨ (v = some (.int 0) ∧ ¬ cs = ds)) ∧ L = [] ∧ B.U.heap = h) ∧ B.locs = P.locs ++ L ∧ B.cells = P.cells + 0 ∧ B.slots = P.slots + 0) := by
  intro m meth c P g ig mk a X hg hsize hdg hW hn hp'
  obtain ⟨rfl, rfl, r1, r2⟩ := hp'
  have al : Z.vm.Alike P.U.vm := hZ.alike.trans X.warmed.alike
  obtain ⟨A, hx⟩ := txt_of wi al E V C K hc hb l2
  obtain ⟨A', hy⟩ := txt_of wi al E' V' C' K' hc' hb' l2'
  obtain ⟨v, B, X', ⟨⟨w, hv, hh, hq⟩, hl, hk, hs⟩, st⟩ := SEq.pays x t A cd cs.length (fun j => cs.getD j 0) y t' A' cd' ds.length (fun j => ds.getD j 0) z (tabEq_of (movedEq hZ hw)) hfr hlo m meth c P g ig mk _ X hg hsize hdg hW hn ⟨r1, r2, rfl, hx, hy, sta_is al S, hz⟩
  refine ⟨v, B, X', ⟨[], ⟨?_, rfl, hh⟩, hl, hk, hs⟩, st⟩
  rcases hq with ⟨rfl, q⟩ | ⟨rfl, q⟩
  · exact Or.inl ⟨hv, (same_list cs ds).mp q⟩
  · exact Or.inr ⟨hv, fun e => q ((same_list cs ds).mpr e)⟩
end StrChars.Road
end Jvm.Pilot.@@N@@
namespace Jvm.Pilot.@@N@@
open Jvm Jvm.ClassFile Sem Op Lib Jvm.Free Jvm.Stand Jvm.LawKit Jvm.RoadKit Bundle Jvm.Pilot.@@N@@.Jvm.D
theorem own_fill : ∀ (vs : List Value) (acc : Array Slot), (∀ v ∈ vs, v.category ≠ 2) → vs.foldl (fun acc v => if v.category = 2 then (acc.push (Slot.val v)).push .second else acc.push (.val v)) acc = acc ++ (vs.map Slot.val).toArray
  | [], acc, _ => by simp
  | v :: vs, acc, h => by
    rw [List.foldl_cons, if_neg (h v (by simp)), own_fill vs _ (fun w hw => h w (by simp [hw]))]
    simp
theorem own_entry (m : MethodId) (vs : List Value) (n : Nat) (hv : ∀ v ∈ vs, v.category ≠ 2) {ls : Array Slot} (hl : (vs.map Slot.val ++ List.replicate (n - vs.length) Slot.unset).toArray = ls) : entryFrame m vs.toArray n = mkF m 0 ls [] := by
  have e : argsToLocals vs.toArray n = (vs.map Slot.val ++ List.replicate (n - vs.length) Slot.unset).toArray := by
    unfold argsToLocals
    simp only [List.foldl_toArray']
    rw [own_fill vs #[] hv]
    simp
  unfold entryFrame
  rw [e, hl]
section OwnLayer
variable {p : Program} {l : Launch} {e : Env} {R : Room} {s : State} {m : MethodId} {args : Array Value} {below : List Frame} {meth : Method} {c : Code}
variable {Z : State} {a0 : Array Value} {EL : List (String × Nat)} {L0 : List Loc} {own nm : String} {bs : ByteArray} {ml : Nat} {rt : Option FieldType}
variable {T : State} {h : Heap} {SF : List Addr} {k j : Nat} {Q : Option Value → Heap → List Addr → Prop}
/-- where a walk stands: its frame's constants, the heap h, the cells SF that may be written, k new cells, j new slots; the tables may have interned meanwhile -/
def Owk (p : Program) (l : Launch) (e : Env) (R : Room) (s : State) (m : MethodId) (args : Array Value) (below : List Frame) (meth : Method) (c : Code) (Z : State) (a0 : Array Value) (EL : List (String × Nat)) (L0 : List Loc) (own nm : String) (bs : ByteArray) (ml : Nat) (rt : Option FieldType) (T : State) (h : Heap) (SF : List Addr) (k j : Nat) : Prop :=
  (p.tables.exec = Jvm.exec ∧ EW Z a0 EL ∧ s.vm.findClass own = some m.cls ∧ c.code = bs ∧ c.maxLocals = ml ∧ meth.sig.returnType = rt ∧ meth.locks = false ∧ meth.name = nm) ∧
  T.heap = h ∧ (∀ x ∈ SF, x < h.size) ∧ k ≤ R.cells ∧ j ≤ R.slots ∧
  ∃ (vm0 : Vm) (k0 : Nat), Stand p l e R (s.setVm vm0) m args below meth c T L0 k j ∧ Z.Warmed39 vm0 ∧ s.Since vm0 k0 ∧ k0 ≤ h.size ∧ CHr Z EL s.vm s.heap vm0 h ∧ ∀ x ∈ SF, Safe Z EL vm0 h x
/-- from the frame g at T the body comes to its return, with Q of what it returns and the heap then -/
def Ogo (p : Program) (l : Launch) (e : Env) (R : Room) (s : State) (m : MethodId) (args : Array Value) (below : List Frame) (meth : Method) (c : Code) (Z : State) (a0 : Array Value) (EL : List (String × Nat)) (L0 : List Loc) (own nm : String) (bs : ByteArray) (ml : Nat) (rt : Option FieldType) (T : State) (g : JFrame) (Q : Option Value → Heap → List Addr → Prop) : Prop :=
  ∃ (T' : State) (v : Option Value) (h' : Heap) (SF : List Addr) (k j : Nat), Owk p l e R s m args below meth c Z a0 EL L0 own nm bs ml rt T' h' SF k j ∧ (rt = none → v = none) ∧ Q v h' SF ∧
    ∀ fs, (∀ (f : JFrame) (acts : List Action), f.method = m → f.locked = none → f.entered = [] → (doReturn e (T'.setTop f) acts v).1 = T'.setFrames fs) → Steps p.tables e below (T.setTop g) (T'.setFrames fs)
theorem own_step {T2 : State} {g g2 : JFrame} (hs : ∀ t, Steps p.tables e below (T2.setTop g2) t → Steps p.tables e below (T.setTop g) t) (K : Ogo p l e R s m args below meth c Z a0 EL L0 own nm bs ml rt T2 g2 Q) : Ogo p l e R s m args below meth c Z a0 EL L0 own nm bs ml rt T g Q := by
  obtain ⟨T', v, h', SF', k', j', W, hv, hq, st⟩ := K
  exact ⟨T', v, h', SF', k', j', W, hv, hq, fun fs hl => hs _ (st fs hl)⟩
theorem Owk.at (W : Owk p l e R s m args below meth c Z a0 EL L0 own nm bs ml rt T h SF k j) : At T m c below := by obtain ⟨-, -, -, -, -, vm0, k0, X, -⟩ := W; exact X.here
theorem Owk.ex (W : Owk p l e R s m args below meth c Z a0 EL L0 own nm bs ml rt T h SF k j) : p.tables.exec = Jvm.exec := W.1.1
theorem Owk.hb (W : Owk p l e R s m args below meth c Z a0 EL L0 own nm bs ml rt T h SF k j) {pc : Nat} {r : Except ClassFile.DecodeError (ClassFile.Instr × Nat)} (h2 : decode bs pc = r) : decode c.code pc = r := by rw [W.1.2.2.2.1]; exact h2
theorem Owk.sf (W : Owk p l e R s m args below meth c Z a0 EL L0 own nm bs ml rt T h SF k j) {SF' : List Addr} (q : ∀ x ∈ SF', x ∈ SF) : Owk p l e R s m args below meth c Z a0 EL L0 own nm bs ml rt T h SF' k j := by
  obtain ⟨w1, w2, w3, w4, w5, vm0, k0, X, w6, w7, w8, w9, w10⟩ := W
  exact ⟨w1, w2, fun x hx => w3 x (q x hx), w4, w5, vm0, k0, X, w6, w7, w8, w9, fun x hx => w10 x (q x hx)⟩
theorem Owk.up (W : Owk p l e R s m args below meth c Z a0 EL L0 own nm bs ml rt T h SF k j) {k' j' : Nat} (q1 : k ≤ k') (q2 : j ≤ j') (r1 : k' ≤ R.cells) (r2 : j' ≤ R.slots) : Owk p l e R s m args below meth c Z a0 EL L0 own nm bs ml rt T h SF k' j' := by
  obtain ⟨w1, w2, w3, w4, w5, vm0, k0, X, w6, w7, w8, w9, w10⟩ := W
  exact ⟨w1, w2, w3, r1, r2, vm0, k0, X.mono q1 q2, w6, w7, w8, w9, w10⟩
theorem Owk.grown (W : Owk p l e R s m args below meth c Z a0 EL L0 own nm bs ml rt T h SF k j) : s.heap.size ≤ h.size := by
  obtain ⟨-, -, -, -, -, vm0, k0, -, -, -, -, w9, -⟩ := W; exact w9.2.1
/-! plain steps -/
section Plain
variable {pc pc' : Nat} {ls : Array Slot} {st : List Value}
theorem g_iloadN (W : Owk p l e R s m args below meth c Z a0 EL L0 own nm bs ml rt T h SF k j) {i : Fin 4} {v : Int32} (hd : decode bs pc = .ok (.iload_n i, 1)) (hp : pc' = pc + 1) (hl : ls[i.val]? = some (.val (.int v))) (K : Ogo p l e R s m args below meth c Z a0 EL L0 own nm bs ml rt T (mkF m pc' ls (.int v :: st)) Q) : Ogo p l e R s m args below meth c Z a0 EL L0 own nm bs ml rt T (mkF m pc ls st) Q := by
  subst hp; exact own_step (fun t q => XS.iloadN W.at W.ex rfl (W.hb hd) hl q) K
theorem g_iload (W : Owk p l e R s m args below meth c Z a0 EL L0 own nm bs ml rt T h SF k j) {i : Nat} {v : Int32} (hd : decode bs pc = .ok (.iload i, 2)) (hp : pc' = pc + 2) (hl : ls[i]? = some (.val (.int v))) (K : Ogo p l e R s m args below meth c Z a0 EL L0 own nm bs ml rt T (mkF m pc' ls (.int v :: st)) Q) : Ogo p l e R s m args below meth c Z a0 EL L0 own nm bs ml rt T (mkF m pc ls st) Q := by
  subst hp; exact own_step (fun t q => XS.iload W.at W.ex rfl (W.hb hd) hl q) K
theorem g_aloadN (W : Owk p l e R s m args below meth c Z a0 EL L0 own nm bs ml rt T h SF k j) {i : Fin 4} {v : Value} (hd : decode bs pc = .ok (.aload_n i, 1)) (hp : pc' = pc + 1) (hl : ls[i.val]? = some (.val v)) (hv : v.isRef = true) (K : Ogo p l e R s m args below meth c Z a0 EL L0 own nm bs ml rt T (mkF m pc' ls (v :: st)) Q) : Ogo p l e R s m args below meth c Z a0 EL L0 own nm bs ml rt T (mkF m pc ls st) Q := by
  subst hp; exact own_step (fun t q => XS.aloadN W.at W.ex rfl (W.hb hd) hl hv q) K
theorem g_aload (W : Owk p l e R s m args below meth c Z a0 EL L0 own nm bs ml rt T h SF k j) {i : Nat} {v : Value} (hd : decode bs pc = .ok (.aload i, 2)) (hp : pc' = pc + 2) (hl : ls[i]? = some (.val v)) (hv : v.isRef = true) (K : Ogo p l e R s m args below meth c Z a0 EL L0 own nm bs ml rt T (mkF m pc' ls (v :: st)) Q) : Ogo p l e R s m args below meth c Z a0 EL L0 own nm bs ml rt T (mkF m pc ls st) Q := by
  subst hp; exact own_step (fun t q => XS.aload W.at W.ex rfl (W.hb hd) hl hv q) K
theorem g_iconst (W : Owk p l e R s m args below meth c Z a0 EL L0 own nm bs ml rt T h SF k j) {i : Int} {v : Int32} (hd : decode bs pc = .ok (.iconst i, 1)) (hp : pc' = pc + 1) (hv : Int32.ofInt i = v) (K : Ogo p l e R s m args below meth c Z a0 EL L0 own nm bs ml rt T (mkF m pc' ls (.int v :: st)) Q) : Ogo p l e R s m args below meth c Z a0 EL L0 own nm bs ml rt T (mkF m pc ls st) Q := by
  subst hp hv; exact own_step (fun t q => XS.iconst W.at W.ex rfl (W.hb hd) q) K
theorem g_bipush (W : Owk p l e R s m args below meth c Z a0 EL L0 own nm bs ml rt T h SF k j) {i : Int} {v : Int32} (hd : decode bs pc = .ok (.bipush i, 2)) (hp : pc' = pc + 2) (hv : (Int8.ofInt i).toInt32 = v) (K : Ogo p l e R s m args below meth c Z a0 EL L0 own nm bs ml rt T (mkF m pc' ls (.int v :: st)) Q) : Ogo p l e R s m args below meth c Z a0 EL L0 own nm bs ml rt T (mkF m pc ls st) Q := by
  subst hp hv; exact own_step (fun t q => XS.bipush W.at W.ex rfl (W.hb hd) q) K
theorem g_sipush (W : Owk p l e R s m args below meth c Z a0 EL L0 own nm bs ml rt T h SF k j) {i : Int} {v : Int32} (hd : decode bs pc = .ok (.sipush i, 3)) (hp : pc' = pc + 3) (hv : (Int16.ofInt i).toInt32 = v) (K : Ogo p l e R s m args below meth c Z a0 EL L0 own nm bs ml rt T (mkF m pc' ls (.int v :: st)) Q) : Ogo p l e R s m args below meth c Z a0 EL L0 own nm bs ml rt T (mkF m pc ls st) Q := by
  subst hp hv; exact own_step (fun t q => XS.sipush W.at W.ex rfl (W.hb hd) q) K
theorem g_aconst_null (W : Owk p l e R s m args below meth c Z a0 EL L0 own nm bs ml rt T h SF k j) (hd : decode bs pc = .ok (.aconst_null, 1)) (hp : pc' = pc + 1) (K : Ogo p l e R s m args below meth c Z a0 EL L0 own nm bs ml rt T (mkF m pc' ls (.null :: st)) Q) : Ogo p l e R s m args below meth c Z a0 EL L0 own nm bs ml rt T (mkF m pc ls st) Q := by
  subst hp; exact own_step (fun t q => XS.aconstNull W.at W.ex rfl (W.hb hd) q) K
theorem g_istoreN (W : Owk p l e R s m args below meth c Z a0 EL L0 own nm bs ml rt T h SF k j) {i : Fin 4} {v : Int32} {ls' : Array Slot} (hd : decode bs pc = .ok (.istore_n i, 1)) (hp : pc' = pc + 1) (hl : storeLocals ls i.val (.int v) = some ls') (K : Ogo p l e R s m args below meth c Z a0 EL L0 own nm bs ml rt T (mkF m pc' ls' st) Q) : Ogo p l e R s m args below meth c Z a0 EL L0 own nm bs ml rt T (mkF m pc ls (.int v :: st)) Q := by
  subst hp; exact own_step (fun t q => XS.istoreN W.at W.ex rfl (W.hb hd) rfl hl q) K
theorem g_istore (W : Owk p l e R s m args below meth c Z a0 EL L0 own nm bs ml rt T h SF k j) {i : Nat} {v : Int32} {ls' : Array Slot} (hd : decode bs pc = .ok (.istore i, 2)) (hp : pc' = pc + 2) (hl : storeLocals ls i (.int v) = some ls') (K : Ogo p l e R s m args below meth c Z a0 EL L0 own nm bs ml rt T (mkF m pc' ls' st) Q) : Ogo p l e R s m args below meth c Z a0 EL L0 own nm bs ml rt T (mkF m pc ls (.int v :: st)) Q := by
  subst hp; exact own_step (fun t q => XS.istore W.at W.ex rfl (W.hb hd) rfl hl q) K
theorem g_astoreN (W : Owk p l e R s m args below meth c Z a0 EL L0 own nm bs ml rt T h SF k j) {i : Fin 4} {v : Value} {ls' : Array Slot} (hd : decode bs pc = .ok (.astore_n i, 1)) (hp : pc' = pc + 1) (hv : v.isRef = true) (hl : storeLocals ls i.val v = some ls') (K : Ogo p l e R s m args below meth c Z a0 EL L0 own nm bs ml rt T (mkF m pc' ls' st) Q) : Ogo p l e R s m args below meth c Z a0 EL L0 own nm bs ml rt T (mkF m pc ls (v :: st)) Q := by
  subst hp; exact own_step (fun t q => XS.astoreN W.at W.ex rfl (W.hb hd) rfl hv hl q) K
theorem g_astore (W : Owk p l e R s m args below meth c Z a0 EL L0 own nm bs ml rt T h SF k j) {i : Nat} {v : Value} {ls' : Array Slot} (hd : decode bs pc = .ok (.astore i, 2)) (hp : pc' = pc + 2) (hv : v.isRef = true) (hl : storeLocals ls i v = some ls') (K : Ogo p l e R s m args below meth c Z a0 EL L0 own nm bs ml rt T (mkF m pc' ls' st) Q) : Ogo p l e R s m args below meth c Z a0 EL L0 own nm bs ml rt T (mkF m pc ls (v :: st)) Q := by
  subst hp; exact own_step (fun t q => XS.astore W.at W.ex rfl (W.hb hd) rfl hv hl q) K
theorem g_iinc (W : Owk p l e R s m args below meth c Z a0 EL L0 own nm bs ml rt T h SF k j) {i : Nat} {d : Int} {x v : Int32} {ls' : Array Slot} (hd : decode bs pc = .ok (.iinc i d, 3)) (hp : pc' = pc + 3) (hl : ls[i]? = some (.val (.int x))) (hv : x + Int32.ofInt d = v) (hl' : storeLocals ls i (.int v) = some ls') (K : Ogo p l e R s m args below meth c Z a0 EL L0 own nm bs ml rt T (mkF m pc' ls' st) Q) : Ogo p l e R s m args below meth c Z a0 EL L0 own nm bs ml rt T (mkF m pc ls st) Q := by
  subst hp hv; exact own_step (fun t q => XS.iinc W.at W.ex rfl (W.hb hd) hl hl' q) K
theorem g_goto (W : Owk p l e R s m args below meth c Z a0 EL L0 own nm bs ml rt T h SF k j) {o : Int} (hd : decode bs pc = .ok (.goto o, 3)) (ho : 0 ≤ (pc : Int) + o) (hp : ((pc : Int) + o).toNat = pc') (K : Ogo p l e R s m args below meth c Z a0 EL L0 own nm bs ml rt T (mkF m pc' ls st) Q) : Ogo p l e R s m args below meth c Z a0 EL L0 own nm bs ml rt T (mkF m pc ls st) Q := by
  exact own_step (fun t q => XS.goto W.at W.ex rfl (pc0 := pc) rfl (W.hb hd) ho hp q) K
theorem g_dup (W : Owk p l e R s m args below meth c Z a0 EL L0 own nm bs ml rt T h SF k j) {x : Value} (hd : decode bs pc = .ok (.dup, 1)) (hp : pc' = pc + 1) (hc : x.category = 1) (K : Ogo p l e R s m args below meth c Z a0 EL L0 own nm bs ml rt T (mkF m pc' ls (x :: x :: st)) Q) : Ogo p l e R s m args below meth c Z a0 EL L0 own nm bs ml rt T (mkF m pc ls (x :: st)) Q := by
  subst hp; exact own_step (fun t q => XS.dup W.at W.ex rfl (W.hb hd) rfl hc q) K
theorem g_pop (W : Owk p l e R s m args below meth c Z a0 EL L0 own nm bs ml rt T h SF k j) {x : Value} (hd : decode bs pc = .ok (.pop, 1)) (hp : pc' = pc + 1) (hc : x.category = 1) (K : Ogo p l e R s m args below meth c Z a0 EL L0 own nm bs ml rt T (mkF m pc' ls st) Q) : Ogo p l e R s m args below meth c Z a0 EL L0 own nm bs ml rt T (mkF m pc ls (x :: st)) Q := by
  subst hp; exact own_step (fun t q => XT.pop W.at W.ex rfl (W.hb hd) rfl hc q) K
theorem g_iadd (W : Owk p l e R s m args below meth c Z a0 EL L0 own nm bs ml rt T h SF k j) {x y : Int32} (hd : decode bs pc = .ok (.iadd, 1)) (hp : pc' = pc + 1) (K : Ogo p l e R s m args below meth c Z a0 EL L0 own nm bs ml rt T (mkF m pc' ls (.int (x + y) :: st)) Q) : Ogo p l e R s m args below meth c Z a0 EL L0 own nm bs ml rt T (mkF m pc ls (.int y :: .int x :: st)) Q := by
  subst hp; exact own_step (fun t q => XS.iadd W.at W.ex rfl (W.hb hd) rfl q) K
theorem g_isub (W : Owk p l e R s m args below meth c Z a0 EL L0 own nm bs ml rt T h SF k j) {x y : Int32} (hd : decode bs pc = .ok (.isub, 1)) (hp : pc' = pc + 1) (K : Ogo p l e R s m args below meth c Z a0 EL L0 own nm bs ml rt T (mkF m pc' ls (.int (x - y) :: st)) Q) : Ogo p l e R s m args below meth c Z a0 EL L0 own nm bs ml rt T (mkF m pc ls (.int y :: .int x :: st)) Q := by
  subst hp; exact own_step (fun t q => XS.isub W.at W.ex rfl (W.hb hd) rfl q) K
theorem g_iand (W : Owk p l e R s m args below meth c Z a0 EL L0 own nm bs ml rt T h SF k j) {x y : Int32} (hd : decode bs pc = .ok (.iand, 1)) (hp : pc' = pc + 1) (K : Ogo p l e R s m args below meth c Z a0 EL L0 own nm bs ml rt T (mkF m pc' ls (.int (x &&& y) :: st)) Q) : Ogo p l e R s m args below meth c Z a0 EL L0 own nm bs ml rt T (mkF m pc ls (.int y :: .int x :: st)) Q := by
  subst hp; exact own_step (fun t q => XS.iand W.at W.ex rfl (W.hb hd) rfl q) K
theorem g_ior (W : Owk p l e R s m args below meth c Z a0 EL L0 own nm bs ml rt T h SF k j) {x y : Int32} (hd : decode bs pc = .ok (.ior, 1)) (hp : pc' = pc + 1) (K : Ogo p l e R s m args below meth c Z a0 EL L0 own nm bs ml rt T (mkF m pc' ls (.int (x ||| y) :: st)) Q) : Ogo p l e R s m args below meth c Z a0 EL L0 own nm bs ml rt T (mkF m pc ls (.int y :: .int x :: st)) Q := by
  subst hp; exact own_step (fun t q => XT.ior W.at W.ex rfl (W.hb hd) rfl q) K
theorem g_imul (W : Owk p l e R s m args below meth c Z a0 EL L0 own nm bs ml rt T h SF k j) {x y : Int32} (hd : decode bs pc = .ok (.imul, 1)) (hp : pc' = pc + 1) (K : Ogo p l e R s m args below meth c Z a0 EL L0 own nm bs ml rt T (mkF m pc' ls (.int (x * y) :: st)) Q) : Ogo p l e R s m args below meth c Z a0 EL L0 own nm bs ml rt T (mkF m pc ls (.int y :: .int x :: st)) Q := by
  subst hp; exact own_step (fun t q => XS.imul W.at W.ex rfl (W.hb hd) rfl q) K
theorem g_ishl (W : Owk p l e R s m args below meth c Z a0 EL L0 own nm bs ml rt T h SF k j) {x y : Int32} (hd : decode bs pc = .ok (.ishl, 1)) (hp : pc' = pc + 1) (K : Ogo p l e R s m args below meth c Z a0 EL L0 own nm bs ml rt T (mkF m pc' ls (.int (x <<< (y &&& 31)) :: st)) Q) : Ogo p l e R s m args below meth c Z a0 EL L0 own nm bs ml rt T (mkF m pc ls (.int y :: .int x :: st)) Q := by
  subst hp; exact own_step (fun t q => XT.ishl W.at W.ex rfl (W.hb hd) rfl q) K
theorem g_ishr (W : Owk p l e R s m args below meth c Z a0 EL L0 own nm bs ml rt T h SF k j) {x y : Int32} (hd : decode bs pc = .ok (.ishr, 1)) (hp : pc' = pc + 1) (K : Ogo p l e R s m args below meth c Z a0 EL L0 own nm bs ml rt T (mkF m pc' ls (.int (x >>> (y &&& 31)) :: st)) Q) : Ogo p l e R s m args below meth c Z a0 EL L0 own nm bs ml rt T (mkF m pc ls (.int y :: .int x :: st)) Q := by
  subst hp; exact own_step (fun t q => XT.ishr W.at W.ex rfl (W.hb hd) rfl q) K
theorem g_iushr (W : Owk p l e R s m args below meth c Z a0 EL L0 own nm bs ml rt T h SF k j) {x y : Int32} (hd : decode bs pc = .ok (.iushr, 1)) (hp : pc' = pc + 1) (K : Ogo p l e R s m args below meth c Z a0 EL L0 own nm bs ml rt T (mkF m pc' ls (.int (XT.ushr x y) :: st)) Q) : Ogo p l e R s m args below meth c Z a0 EL L0 own nm bs ml rt T (mkF m pc ls (.int y :: .int x :: st)) Q := by
  subst hp; exact own_step (fun t q => XT.iushr W.at W.ex rfl (W.hb hd) rfl q) K
theorem g_irem (W : Owk p l e R s m args below meth c Z a0 EL L0 own nm bs ml rt T h SF k j) {x y : Int32} (hd : decode bs pc = .ok (.irem, 1)) (hp : pc' = pc + 1) (hy : y ≠ 0) (K : Ogo p l e R s m args below meth c Z a0 EL L0 own nm bs ml rt T (mkF m pc' ls (.int (x % y) :: st)) Q) : Ogo p l e R s m args below meth c Z a0 EL L0 own nm bs ml rt T (mkF m pc ls (.int y :: .int x :: st)) Q := by
  obtain ⟨-, -, -, -, -, vm0, k0, X, -⟩ := id W
  subst hp; exact own_step (fun t q => iremM X W.ex rfl (W.hb hd) rfl hy q) K
theorem g_i2b (W : Owk p l e R s m args below meth c Z a0 EL L0 own nm bs ml rt T h SF k j) {x : Int32} (hd : decode bs pc = .ok (.i2b, 1)) (hp : pc' = pc + 1) (K : Ogo p l e R s m args below meth c Z a0 EL L0 own nm bs ml rt T (mkF m pc' ls (.int x.toInt8.toInt32 :: st)) Q) : Ogo p l e R s m args below meth c Z a0 EL L0 own nm bs ml rt T (mkF m pc ls (.int x :: st)) Q := by
  subst hp; exact own_step (fun t q => XT.i2b W.at W.ex rfl (W.hb hd) rfl q) K
theorem g_i2c (W : Owk p l e R s m args below meth c Z a0 EL L0 own nm bs ml rt T h SF k j) {x : Int32} (hd : decode bs pc = .ok (.i2c, 1)) (hp : pc' = pc + 1) (K : Ogo p l e R s m args below meth c Z a0 EL L0 own nm bs ml rt T (mkF m pc' ls (.int x.toUInt32.toUInt16.toUInt32.toInt32 :: st)) Q) : Ogo p l e R s m args below meth c Z a0 EL L0 own nm bs ml rt T (mkF m pc ls (.int x :: st)) Q := by
  subst hp; exact own_step (fun t q => XT.i2c W.at W.ex rfl (W.hb hd) rfl q) K
theorem g_ifY (W : Owk p l e R s m args below meth c Z a0 EL L0 own nm bs ml rt T h SF k j) {cd : ClassFile.Cond} {x : Int32} {o : Int} (hd : decode bs pc = .ok (.ifCond cd o, 3)) (hc : if_icmp.holds cd x 0 = true) (ho : 0 ≤ (pc : Int) + o) (hp : ((pc : Int) + o).toNat = pc') (K : Ogo p l e R s m args below meth c Z a0 EL L0 own nm bs ml rt T (mkF m pc' ls st) Q) : Ogo p l e R s m args below meth c Z a0 EL L0 own nm bs ml rt T (mkF m pc ls (.int x :: st)) Q := by
  exact own_step (fun t q => XS.ifYes W.at W.ex rfl (pc0 := pc) rfl (W.hb hd) rfl (by rw [if0]; exact hc) ho hp q) K
theorem g_ifN (W : Owk p l e R s m args below meth c Z a0 EL L0 own nm bs ml rt T h SF k j) {cd : ClassFile.Cond} {x : Int32} {o : Int} (hd : decode bs pc = .ok (.ifCond cd o, 3)) (hc : if_icmp.holds cd x 0 = false) (hp : pc' = pc + 3) (K : Ogo p l e R s m args below meth c Z a0 EL L0 own nm bs ml rt T (mkF m pc' ls st) Q) : Ogo p l e R s m args below meth c Z a0 EL L0 own nm bs ml rt T (mkF m pc ls (.int x :: st)) Q := by
  subst hp; exact own_step (fun t q => XS.ifNo W.at W.ex rfl (W.hb hd) rfl (by rw [if0]; exact hc) q) K
theorem g_icY (W : Owk p l e R s m args below meth c Z a0 EL L0 own nm bs ml rt T h SF k j) {cd : ClassFile.Cond} {x y : Int32} {o : Int} (hd : decode bs pc = .ok (.if_icmp cd o, 3)) (hc : if_icmp.holds cd x y = true) (ho : 0 ≤ (pc : Int) + o) (hp : ((pc : Int) + o).toNat = pc') (K : Ogo p l e R s m args below meth c Z a0 EL L0 own nm bs ml rt T (mkF m pc' ls st) Q) : Ogo p l e R s m args below meth c Z a0 EL L0 own nm bs ml rt T (mkF m pc ls (.int y :: .int x :: st)) Q := by
  exact own_step (fun t q => XS.icmpYes W.at W.ex rfl (pc0 := pc) rfl (W.hb hd) rfl hc ho hp q) K
theorem g_icN (W : Owk p l e R s m args below meth c Z a0 EL L0 own nm bs ml rt T h SF k j) {cd : ClassFile.Cond} {x y : Int32} {o : Int} (hd : decode bs pc = .ok (.if_icmp cd o, 3)) (hc : if_icmp.holds cd x y = false) (hp : pc' = pc + 3) (K : Ogo p l e R s m args below meth c Z a0 EL L0 own nm bs ml rt T (mkF m pc' ls st) Q) : Ogo p l e R s m args below meth c Z a0 EL L0 own nm bs ml rt T (mkF m pc ls (.int y :: .int x :: st)) Q := by
  subst hp; exact own_step (fun t q => XS.icmpNo W.at W.ex rfl (W.hb hd) rfl hc q) K
theorem g_nullY (W : Owk p l e R s m args below meth c Z a0 EL L0 own nm bs ml rt T h SF k j) {o : Int} (hd : decode bs pc = .ok (.ifnull o, 3)) (ho : 0 ≤ (pc : Int) + o) (hp : ((pc : Int) + o).toNat = pc') (K : Ogo p l e R s m args below meth c Z a0 EL L0 own nm bs ml rt T (mkF m pc' ls st) Q) : Ogo p l e R s m args below meth c Z a0 EL L0 own nm bs ml rt T (mkF m pc ls (.null :: st)) Q := by
  exact own_step (fun t q => XS.ifnullYes W.at W.ex rfl (pc0 := pc) rfl (W.hb hd) rfl ho hp q) K
theorem g_nullN (W : Owk p l e R s m args below meth c Z a0 EL L0 own nm bs ml rt T h SF k j) {b : Addr} {o : Int} (hd : decode bs pc = .ok (.ifnull o, 3)) (hp : pc' = pc + 3) (K : Ogo p l e R s m args below meth c Z a0 EL L0 own nm bs ml rt T (mkF m pc' ls st) Q) : Ogo p l e R s m args below meth c Z a0 EL L0 own nm bs ml rt T (mkF m pc ls (.ref b :: st)) Q := by
  subst hp; exact own_step (fun t q => XS.ifnullNo W.at W.ex rfl (W.hb hd) rfl q) K
theorem g_nnY (W : Owk p l e R s m args below meth c Z a0 EL L0 own nm bs ml rt T h SF k j) {b : Addr} {o : Int} (hd : decode bs pc = .ok (.ifnonnull o, 3)) (ho : 0 ≤ (pc : Int) + o) (hp : ((pc : Int) + o).toNat = pc') (K : Ogo p l e R s m args below meth c Z a0 EL L0 own nm bs ml rt T (mkF m pc' ls st) Q) : Ogo p l e R s m args below meth c Z a0 EL L0 own nm bs ml rt T (mkF m pc ls (.ref b :: st)) Q := by
  exact own_step (fun t q => XT.ifnonnullYes W.at W.ex rfl (pc0 := pc) rfl (W.hb hd) rfl ho hp q) K
theorem g_nnN (W : Owk p l e R s m args below meth c Z a0 EL L0 own nm bs ml rt T h SF k j) {o : Int} (hd : decode bs pc = .ok (.ifnonnull o, 3)) (hp : pc' = pc + 3) (K : Ogo p l e R s m args below meth c Z a0 EL L0 own nm bs ml rt T (mkF m pc' ls st) Q) : Ogo p l e R s m args below meth c Z a0 EL L0 own nm bs ml rt T (mkF m pc ls (.null :: st)) Q := by
  subst hp; exact own_step (fun t q => XT.ifnonnullNo W.at W.ex rfl (W.hb hd) rfl q) K
theorem g_acY (W : Owk p l e R s m args below meth c Z a0 EL L0 own nm bs ml rt T h SF k j) {cd : ClassFile.ACond} {x y : Value} {o : Int} (hd : decode bs pc = .ok (.if_acmp cd o, 3)) (h1 : x.isRef = true) (h2 : y.isRef = true) (hc : XT.acmp cd x y = true) (ho : 0 ≤ (pc : Int) + o) (hp : ((pc : Int) + o).toNat = pc') (K : Ogo p l e R s m args below meth c Z a0 EL L0 own nm bs ml rt T (mkF m pc' ls st) Q) : Ogo p l e R s m args below meth c Z a0 EL L0 own nm bs ml rt T (mkF m pc ls (y :: x :: st)) Q := by
  exact own_step (fun t q => XT.acmpYes W.at W.ex rfl (pc0 := pc) rfl (W.hb hd) rfl h1 h2 hc ho hp q) K
theorem g_acN (W : Owk p l e R s m args below meth c Z a0 EL L0 own nm bs ml rt T h SF k j) {cd : ClassFile.ACond} {x y : Value} {o : Int} (hd : decode bs pc = .ok (.if_acmp cd o, 3)) (h1 : x.isRef = true) (h2 : y.isRef = true) (hc : XT.acmp cd x y = false) (hp : pc' = pc + 3) (K : Ogo p l e R s m args below meth c Z a0 EL L0 own nm bs ml rt T (mkF m pc' ls st) Q) : Ogo p l e R s m args below meth c Z a0 EL L0 own nm bs ml rt T (mkF m pc ls (y :: x :: st)) Q := by
  subst hp; exact own_step (fun t q => XT.acmpNo W.at W.ex rfl (W.hb hd) rfl h1 h2 hc q) K
end Plain
/-! steps that read or write the heap or the tables -/
theorem Owk.fc (W : Owk p l e R s m args below meth c Z a0 EL L0 own nm bs ml rt T h SF k j) {vm0 : Vm} {k0 : Nat} (hS : s.Since vm0 k0) : vm0.findClass own = some m.cls := by rw [hS.1.alike.findClass]; exact W.1.2.2.1
theorem own_same (W : Owk p l e R s m args below meth c Z a0 EL L0 own nm bs ml rt T h SF k j) {g g2 : JFrame}
    (f : ∀ vm0, Stand p l e R (s.setVm vm0) m args below meth c T L0 k j → Z.Warmed39 vm0 → vm0.findClass own = some m.cls → ∃ T', Stand p l e R (s.setVm vm0) m args below meth c T' L0 k j ∧ T'.heap = h ∧ ∀ t, Steps p.tables e below (T'.setTop g2) t → Steps p.tables e below (T.setTop g) t)
    (K : ∀ T', Owk p l e R s m args below meth c Z a0 EL L0 own nm bs ml rt T' h SF k j → Ogo p l e R s m args below meth c Z a0 EL L0 own nm bs ml rt T' g2 Q) : Ogo p l e R s m args below meth c Z a0 EL L0 own nm bs ml rt T g Q := by
  obtain ⟨w1, w2, w3, w4, w5, vm0, k0, X, w6, w7, w8, w9, w10⟩ := id W
  obtain ⟨T', X', e', st⟩ := f vm0 X w6 (W.fc w7)
  exact own_step st (K T' ⟨w1, e', w3, w4, w5, vm0, k0, X', w6, w7, w8, w9, w10⟩)
theorem own_here (W : Owk p l e R s m args below meth c Z a0 EL L0 own nm bs ml rt T h SF k j) {g g2 : JFrame}
    (f : ∀ vm0, Stand p l e R (s.setVm vm0) m args below meth c T L0 k j → Z.Warmed39 vm0 → vm0.findClass own = some m.cls → ∀ t, Steps p.tables e below (T.setTop g2) t → Steps p.tables e below (T.setTop g) t)
    (K : Ogo p l e R s m args below meth c Z a0 EL L0 own nm bs ml rt T g2 Q) : Ogo p l e R s m args below meth c Z a0 EL L0 own nm bs ml rt T g Q := by
  obtain ⟨w1, w2, w3, w4, w5, vm0, k0, X, w6, w7, w8, w9, w10⟩ := id W
  exact own_step (f vm0 X w6 (W.fc w7)) K
theorem own_wr (W : Owk p l e R s m args below meth c Z a0 EL L0 own nm bs ml rt T h SF k j) {g g2 : JFrame} {a : Addr} {sl : Nat} {v : Value} (hS : a ∈ SF) (hL : (⟨a, sl⟩ : Loc) ∈ L0 ∨ s.heap.size ≤ a)
    (f : ∀ vm0, Stand p l e R (s.setVm vm0) m args below meth c T L0 k j → Z.Warmed39 vm0 → vm0.findClass own = some m.cls → ∃ T' h', Stand p l e R (s.setVm vm0) m args below meth c T' (L0 ++ [⟨a, sl⟩]) k j ∧ T'.heap = h' ∧ Wr h h' a sl v ∧ ∀ t, Steps p.tables e below (T'.setTop g2) t → Steps p.tables e below (T.setTop g) t)
    (K : ∀ T' h', Wr h h' a sl v → Owk p l e R s m args below meth c Z a0 EL L0 own nm bs ml rt T' h' SF k j → Ogo p l e R s m args below meth c Z a0 EL L0 own nm bs ml rt T' g2 Q) : Ogo p l e R s m args below meth c Z a0 EL L0 own nm bs ml rt T g Q := by
  obtain ⟨w1, w2, w3, w4, w5, vm0, k0, X, w6, w7, w8, w9, w10⟩ := id W
  obtain ⟨T', h', X', e', Wr', st⟩ := f vm0 X w6 (W.fc w7)
  have X2 := X'.sift (L' := L0) (fun x hx => by
    rcases List.mem_append.mp hx with q | q
    · exact Or.inl q
    · cases List.mem_singleton.mp q; exact hL)
  refine own_step st (K T' h' Wr' ⟨w1, e', fun x hx => by rw [Wr'.size]; exact w3 x hx, w4, w5, vm0, k0, X2, w6, w7, by rw [Wr'.size]; exact w8, w9.trans (CHr.wr Wr' (w10 a hS) w9.1), fun x hx => Safe.wr Wr' (w10 a hS) w9.1 (w10 x hx)⟩)
theorem g_getF (W : Owk p l e R s m args below meth c Z a0 EL L0 own nm bs ml rt T h SF k j) {pc pc' idx : Nat} {ls : Array Slot} {st : List Value} {O n d : String} {a : Addr} {v : Value} (hd : decode bs pc = .ok (.getfield idx, 3)) (hp : pc' = pc + 3) (w : (Cond.fieldLink own idx O n d).before a0 Z = true) (F : Fld Z h a O n d v)
    (K : ∀ T', Owk p l e R s m args below meth c Z a0 EL L0 own nm bs ml rt T' h SF k j → Ogo p l e R s m args below meth c Z a0 EL L0 own nm bs ml rt T' (mkF m pc' ls (v :: st)) Q) : Ogo p l e R s m args below meth c Z a0 EL L0 own nm bs ml rt T (mkF m pc ls (.ref a :: st)) Q := by
  subst hp; exact own_same W (fun vm0 X hZ ho => getF X W.ex hZ ho (host := "") (Or.inl w) Via.refl W.2.1 F (g := mkF m pc ls (.ref a :: st)) rfl rfl (W.hb hd)) K
theorem g_getS (W : Owk p l e R s m args below meth c Z a0 EL L0 own nm bs ml rt T h SF k j) {pc pc' idx : Nat} {ls : Array Slot} {st : List Value} {O n d : String} {v : Value} (hd : decode bs pc = .ok (.getstatic idx, 3)) (hp : pc' = pc + 3) (w : (Cond.fieldLink own idx O n d).before a0 Z = true) (F : Sta Z h O n d v)
    (K : ∀ T', Owk p l e R s m args below meth c Z a0 EL L0 own nm bs ml rt T' h SF k j → Ogo p l e R s m args below meth c Z a0 EL L0 own nm bs ml rt T' (mkF m pc' ls (v :: st)) Q) : Ogo p l e R s m args below meth c Z a0 EL L0 own nm bs ml rt T (mkF m pc ls st) Q := by
  subst hp; exact own_same W (fun vm0 X hZ ho => getS X W.ex hZ ho (host := "") w Via.refl W.2.1 F (g := mkF m pc ls st) rfl (W.hb hd)) K
theorem g_ldcI (W : Owk p l e R s m args below meth c Z a0 EL L0 own nm bs ml rt T h SF k j) {pc pc' idx : Nat} {ls : Array Slot} {st : List Value} {v : Int32} (hd : decode bs pc = .ok (.ldc idx, 2)) (hp : pc' = pc + 2) (w : (Cond.constant own idx v).before a0 Z = true)
    (K : Ogo p l e R s m args below meth c Z a0 EL L0 own nm bs ml rt T (mkF m pc' ls (.int v :: st)) Q) : Ogo p l e R s m args below meth c Z a0 EL L0 own nm bs ml rt T (mkF m pc ls st) Q := by
  subst hp; exact own_here W (fun vm0 X hZ ho => X.ldcInt W.ex ho (mvT (s := s.setVm vm0) hZ w) (g := mkF m pc ls st) rfl (W.hb hd)) K
theorem g_cast (W : Owk p l e R s m args below meth c Z a0 EL L0 own nm bs ml rt T h SF k j) {pc pc' idx : Nat} {ls : Array Slot} {st : List Value} {C : String} {a : Addr} (hd : decode bs pc = .ok (.checkcast idx, 3)) (hp : pc' = pc + 3) (w : (Cond.classLink own idx C).before a0 Z = true) (F : Ins Z h a C true)
    (K : ∀ T', Owk p l e R s m args below meth c Z a0 EL L0 own nm bs ml rt T' h SF k j → Ogo p l e R s m args below meth c Z a0 EL L0 own nm bs ml rt T' (mkF m pc' ls (.ref a :: st)) Q) : Ogo p l e R s m args below meth c Z a0 EL L0 own nm bs ml rt T (mkF m pc ls (.ref a :: st)) Q := by
  subst hp; exact own_same W (fun vm0 X hZ ho => castY X W.ex hZ ho w W.2.1 F (g := mkF m pc ls (.ref a :: st)) rfl rfl (W.hb hd)) K
theorem g_inst (W : Owk p l e R s m args below meth c Z a0 EL L0 own nm bs ml rt T h SF k j) {pc pc' idx : Nat} {ls : Array Slot} {st : List Value} {C : String} {a : Addr} (hd : decode bs pc = .ok (.instanceof idx, 3)) (hp : pc' = pc + 3) (w : (Cond.classLink own idx C).before a0 Z = true) (F : Ins Z h a C true)
    (K : ∀ T', Owk p l e R s m args below meth c Z a0 EL L0 own nm bs ml rt T' h SF k j → Ogo p l e R s m args below meth c Z a0 EL L0 own nm bs ml rt T' (mkF m pc' ls (.int 1 :: st)) Q) : Ogo p l e R s m args below meth c Z a0 EL L0 own nm bs ml rt T (mkF m pc ls (.ref a :: st)) Q := by
  subst hp; exact own_same W (fun vm0 X hZ ho => instY X W.ex hZ ho w W.2.1 F (g := mkF m pc ls (.ref a :: st)) rfl rfl (W.hb hd)) K
theorem g_new (W : Owk p l e R s m args below meth c Z a0 EL L0 own nm bs ml rt T h SF k j) {pc pc' idx n : Nat} {ls : Array Slot} {st : List Value} {C : String} (hd : decode bs pc = .ok (.new idx, 3)) (hp : pc' = pc + 3) (w : (Cond.classLink own idx C).before a0 Z = true) (wi : (Cond.instantiable C n).before a0 Z = true) (wz : (Cond.initialized C).before a0 Z = true) (hc : k + 1 ≤ R.cells) (hl : j + n ≤ R.slots)
    (K : ∀ T' h', Ext h h' → Exa Z h' h.size C → (∀ {O nm d : String} {ty : FieldType}, Laid Z a0 C O nm d → parseFieldDescriptor d = some ty → Fld Z h' h.size O nm d (defaultValue ty)) → Unt h' h.size → Owk p l e R s m args below meth c Z a0 EL L0 own nm bs ml rt T' h' (h.size :: SF) (k + 1) (j + n) → Ogo p l e R s m args below meth c Z a0 EL L0 own nm bs ml rt T' (mkF m pc' ls (.ref h.size :: st)) Q) : Ogo p l e R s m args below meth c Z a0 EL L0 own nm bs ml rt T (mkF m pc ls st) Q := by
  subst hp
  obtain ⟨w1, w2, w3, w4, w5, vm0, k0, X, w6, w7, w8, w9, w10⟩ := id W
  obtain ⟨T', h', X', e', E, A, D, U, st'⟩ := newO X W.ex w6 (W.fc w7) w wi wz w2 (g := mkF m pc ls st) rfl (W.hb hd) hc hl
  refine own_step st' (K T' h' E A D U ⟨w1, e', fun x hx => ?_, hc, hl, vm0, k0, X', w6, w7, Nat.le_trans w8 E.1, w9.trans (CHr.ext E w9.1), fun x hx => ?_⟩)
  · rcases List.mem_cons.mp hx with rfl | q
    · exact A.lt
    · exact Nat.lt_of_lt_of_le (w3 x q) E.1
  · rcases List.mem_cons.mp hx with rfl | q
    · exact (Safe.new (Nat.le_refl _)).ext E w9.1
    · exact (w10 x q).ext E w9.1
theorem g_newP (W : Owk p l e R s m args below meth c Z a0 EL L0 own nm bs ml rt T h SF k j) {pc pc' : Nat} {ls : Array Slot} {st : List Value} {aty : ArrayType} {ty : FieldType} {dv : Value} {n : Int32} {cap : Nat} (hd : decode bs pc = .ok (.newarray aty, 2)) (hp : pc' = pc + 2) (hty : newarray.typeOf aty = ty) (hdv : defaultValue ty = dv) (w : (Cond.arrayClass ty).before a0 Z = true) (hn : ¬ n < 0) (hcap : n.toNatClampNeg ≤ cap) (hb : cap * 8 ≤ 536870912) (hc : k + 1 ≤ R.cells) (hl : j + cap ≤ R.slots)
    (K : ∀ T' h' cA, Ext h h' → Arv Z h' h.size cA ty n [] dv → Owk p l e R s m args below meth c Z a0 EL L0 own nm bs ml rt T' h' (h.size :: SF) (k + 1) (j + cap) → Ogo p l e R s m args below meth c Z a0 EL L0 own nm bs ml rt T' (mkF m pc' ls (.ref h.size :: st)) Q) : Ogo p l e R s m args below meth c Z a0 EL L0 own nm bs ml rt T (mkF m pc ls (.int n :: st)) Q := by
  subst hp hty hdv
  obtain ⟨w1, w2, w3, w4, w5, vm0, k0, X, w6, w7, w8, w9, w10⟩ := id W
  obtain ⟨T', h', cA, X', e', E, A, st'⟩ := newP X W.ex w6 w w2 (g := mkF m pc ls (.int n :: st)) rfl (W.hb hd) rfl hn hcap hb hc hl
  have V := Arv.new A hn
  refine own_step st' (K T' h' cA E V ⟨w1, e', fun x hx => ?_, hc, hl, vm0, k0, X', w6, w7, Nat.le_trans w8 E.1, w9.trans (CHr.ext E w9.1), fun x hx => ?_⟩)
  · rcases List.mem_cons.mp hx with rfl | q
    · exact V.lt
    · exact Nat.lt_of_lt_of_le (w3 x q) E.1
  · rcases List.mem_cons.mp hx with rfl | q
    · exact (Safe.new (Nat.le_refl _)).ext E w9.1
    · exact (w10 x q).ext E w9.1
theorem g_putF (W : Owk p l e R s m args below meth c Z a0 EL L0 own nm bs ml rt T h SF k j) {pc pc' idx kk : Nat} {ls : Array Slot} {st : List Value} {O n d C : String} {ty : FieldType} {a : Addr} {v old : Value} (hd : decode bs pc = .ok (.putfield idx, 3)) (hp : pc' = pc + 3) (w : (Cond.fieldLink own idx O n d).before a0 Z = true) (F : Fld Z h a O n d old) (E : Exa Z h a C) (L : (Cond.lays C O n d).before a0 Z = true ∨ ((Cond.laysFinal C O n d).before a0 Z = true ∧ own = O ∧ nm = "<init>")) (wi : (Cond.instantiable C kk).before a0 Z = true)
    (hty : parseFieldDescriptor d = some ty) (hn : narrow ty v = v) (hf : fits ty v = true) (hS : a ∈ SF) (hL : (⟨a, RoadKit.slotOf Z O n d⟩ : Loc) ∈ L0 ∨ s.heap.size ≤ a)
    (K : ∀ T' h', Wr h h' a (RoadKit.slotOf Z O n d) v → Owk p l e R s m args below meth c Z a0 EL L0 own nm bs ml rt T' h' SF k j → Ogo p l e R s m args below meth c Z a0 EL L0 own nm bs ml rt T' (mkF m pc' ls st) Q) : Ogo p l e R s m args below meth c Z a0 EL L0 own nm bs ml rt T (mkF m pc ls (v :: .ref a :: st)) Q := by
  subst hp
  have hnm := W.1.2.2.2.2.2.2.2
  exact own_wr W hS hL (fun vm0 X hZ ho => putF X W.ex hZ ho (host := "") (Or.inl w) Via.refl W.2.1 F E (L.imp id fun q => ⟨q.1, q.2.1, hnm.trans q.2.2⟩) wi hty hn hf (g := mkF m pc ls (v :: .ref a :: st)) rfl rfl (W.hb hd)) K
theorem own_idx {N jj : Int32} {i : Nat} (hN : ¬ N < 0) (hj : jj = Int32.ofNat i) (hi : i < N.toNatClampNeg) : ¬ jj < 0 ∧ jj.toNatClampNeg = i := by
  have q : N.toNatClampNeg < 2 ^ 31 := (back32 hN).2
  have e : jj.toInt = i := by rw [hj]; exact Int32.toInt_ofNat_of_lt (by omega)
  refine ⟨fun z => ?_, ?_⟩
  · rw [Int32.lt_iff_toInt_lt, e] at z
    have : (0 : Int32).toInt = 0 := rfl
    omega
  · show jj.toInt.toNat = i
    rw [e]; rfl
theorem g_alen (W : Owk p l e R s m args below meth c Z a0 EL L0 own nm bs ml rt T h SF k j) {pc pc' : Nat} {ls : Array Slot} {st : List Value} {a : Addr} {kC : ClassId} {ty : FieldType} {N : Int32} {vs : List Value} {dv : Value} (hd : decode bs pc = .ok (.arraylength, 1)) (hp : pc' = pc + 1) (A : Arv Z h a kC ty N vs dv)
    (K : Ogo p l e R s m args below meth c Z a0 EL L0 own nm bs ml rt T (mkF m pc' ls (.int N :: st)) Q) : Ogo p l e R s m args below meth c Z a0 EL L0 own nm bs ml rt T (mkF m pc ls (.ref a :: st)) Q := by
  subst hp
  obtain ⟨cl, A1, A2, A3, A4, A5, A6⟩ := A
  refine own_here W (fun vm0 X hZ ho t q => X.arraylength W.ex (by rw [W.2.1]; exact A1.1) (State.isArrayOf_alike hZ.alike A1.2.1) (g := mkF m pc ls (.ref a :: st)) rfl rfl (W.hb hd) t ?_) K
  rw [len_of A3 A4]; exact q
theorem g_caload (W : Owk p l e R s m args below meth c Z a0 EL L0 own nm bs ml rt T h SF k j) {pc pc' : Nat} {ls : Array Slot} {st : List Value} {a : Addr} {kC : ClassId} {N jj : Int32} {vs : List Value} {dv v : Value} (hd : decode bs pc = .ok (.caload, 1)) (hp : pc' = pc + 1) (A : Arv Z h a kC .char N vs dv) {i : Nat} (hj : jj = Int32.ofNat i) (hi : i < N.toNatClampNeg) (hv : vs.getD i dv = v)
    (K : Ogo p l e R s m args below meth c Z a0 EL L0 own nm bs ml rt T (mkF m pc' ls (v :: st)) Q) : Ogo p l e R s m args below meth c Z a0 EL L0 own nm bs ml rt T (mkF m pc ls (.int jj :: .ref a :: st)) Q := by
  subst hp
  obtain ⟨cl, A1, A2, A3, A4, A5, A6⟩ := A
  obtain ⟨q1, q2⟩ := own_idx A4 hj hi
  exact own_here W (fun vm0 X hZ ho t q => X.caload W.ex (v := v) (by rw [W.2.1]; exact A1.1) (State.isArrayOf_alike hZ.alike A1.2.1) A1.2.2 (by rw [q2, A3]; intro z; rcases z with z | z; exact q1 z; omega) (by rw [q2, A5 i (by omega), hv]) (g := mkF m pc ls (.int jj :: .ref a :: st)) rfl rfl (W.hb hd) t q) K
theorem g_baload (W : Owk p l e R s m args below meth c Z a0 EL L0 own nm bs ml rt T h SF k j) {pc pc' : Nat} {ls : Array Slot} {st : List Value} {a : Addr} {kC : ClassId} {N jj : Int32} {vs : List Value} {dv v : Value} (hd : decode bs pc = .ok (.baload, 1)) (hp : pc' = pc + 1) (A : Arv Z h a kC .byte N vs dv) {i : Nat} (hj : jj = Int32.ofNat i) (hi : i < N.toNatClampNeg) (hv : vs.getD i dv = v)
    (K : Ogo p l e R s m args below meth c Z a0 EL L0 own nm bs ml rt T (mkF m pc' ls (v :: st)) Q) : Ogo p l e R s m args below meth c Z a0 EL L0 own nm bs ml rt T (mkF m pc ls (.int jj :: .ref a :: st)) Q := by
  subst hp
  obtain ⟨cl, A1, A2, A3, A4, A5, A6⟩ := A
  obtain ⟨q1, q2⟩ := own_idx A4 hj hi
  exact own_here W (fun vm0 X hZ ho t q => X.baloadBytes W.ex (v := v) (by rw [W.2.1]; exact A1.1) (State.isArrayOf_alike hZ.alike A1.2.1) A1.2.2 (by rw [q2, A3]; intro z; rcases z with z | z; exact q1 z; omega) (by rw [q2, A5 i (by omega), hv]) (g := mkF m pc ls (.int jj :: .ref a :: st)) rfl rfl (W.hb hd) t q) K
theorem g_aaload (W : Owk p l e R s m args below meth c Z a0 EL L0 own nm bs ml rt T h SF k j) {pc pc' : Nat} {ls : Array Slot} {st : List Value} {a : Addr} {kC : ClassId} {ty : FieldType} {N jj : Int32} {vs : List Value} {dv v : Value} (hd : decode bs pc = .ok (.aaload, 1)) (hp : pc' = pc + 1) (A : Arv Z h a kC ty N vs dv) (hr : ty.isReference = true) {i : Nat} (hj : jj = Int32.ofNat i) (hi : i < N.toNatClampNeg) (hv : vs.getD i dv = v)
    (K : Ogo p l e R s m args below meth c Z a0 EL L0 own nm bs ml rt T (mkF m pc' ls (v :: st)) Q) : Ogo p l e R s m args below meth c Z a0 EL L0 own nm bs ml rt T (mkF m pc ls (.int jj :: .ref a :: st)) Q := by
  subst hp
  obtain ⟨cl, A1, A2, A3, A4, A5, A6⟩ := A
  obtain ⟨q1, q2⟩ := own_idx A4 hj hi
  exact own_here W (fun vm0 X hZ ho t q => X.aaload W.ex (v := v) (by rw [W.2.1]; exact A1.1) (State.isArrayOf_alike hZ.alike A1.2.1) hr A1.2.2 (by rw [q2, A3]; intro z; rcases z with z | z; exact q1 z; omega) (by rw [q2, A5 i (by omega), hv]) (g := mkF m pc ls (.int jj :: .ref a :: st)) rfl rfl (W.hb hd) t q) K
theorem g_castore (W : Owk p l e R s m args below meth c Z a0 EL L0 own nm bs ml rt T h SF k j) {pc pc' : Nat} {ls : Array Slot} {st : List Value} {a : Addr} {kC : ClassId} {N jj x y : Int32} {vs vs' : List Value} {dv : Value} (hd : decode bs pc = .ok (.castore, 1)) (hp : pc' = pc + 1) (A : Arv Z h a kC .char N vs dv) {i : Nat} (hj : jj = Int32.ofNat i) (hi : i < N.toNatClampNeg) (hi' : i < vs.length) (hy : nar .char x = y) (hv : vs.set i (.int y) = vs') (hS : a ∈ SF) (hL : (⟨a, i⟩ : Loc) ∈ L0 ∨ s.heap.size ≤ a)
    (K : ∀ T' h', Wr h h' a i (.int y) → Arv Z h' a kC .char N vs' dv → Owk p l e R s m args below meth c Z a0 EL L0 own nm bs ml rt T' h' SF k j → Ogo p l e R s m args below meth c Z a0 EL L0 own nm bs ml rt T' (mkF m pc' ls st) Q) : Ogo p l e R s m args below meth c Z a0 EL L0 own nm bs ml rt T (mkF m pc ls (.int x :: .int jj :: .ref a :: st)) Q := by
  subst hp hy hv
  obtain ⟨cl, A1, A2, A3, A4, A5, A6⟩ := A
  obtain ⟨q1, q2⟩ := own_idx A4 hj hi
  refine own_wr W (v := .int (nar .char x)) (sl := i) hS hL (fun vm0 X hZ ho => ?_) (fun T' h' w => K T' h' w (Arv.set (j := jj) A1 A2 A3 A4 A5 A6 (fits_nar_char x) (by rw [q2]; exact w) i q2 hi'))
  have := stC X W.ex hZ W.2.1 A1 (j := jj) (x := x) (by rw [q2, A3]; intro z; rcases z with z | z; exact q1 z; omega) (g := mkF m pc ls (.int x :: .int jj :: .ref a :: st)) rfl rfl (W.hb hd)
  rw [q2] at this; exact this
theorem g_bastore (W : Owk p l e R s m args below meth c Z a0 EL L0 own nm bs ml rt T h SF k j) {pc pc' : Nat} {ls : Array Slot} {st : List Value} {a : Addr} {kC : ClassId} {N jj x y : Int32} {vs vs' : List Value} {dv : Value} (hd : decode bs pc = .ok (.bastore, 1)) (hp : pc' = pc + 1) (A : Arv Z h a kC .byte N vs dv) {i : Nat} (hj : jj = Int32.ofNat i) (hi : i < N.toNatClampNeg) (hi' : i < vs.length) (hy : nar .byte x = y) (hv : vs.set i (.int y) = vs') (hS : a ∈ SF) (hL : (⟨a, i⟩ : Loc) ∈ L0 ∨ s.heap.size ≤ a)
    (K : ∀ T' h', Wr h h' a i (.int y) → Arv Z h' a kC .byte N vs' dv → Owk p l e R s m args below meth c Z a0 EL L0 own nm bs ml rt T' h' SF k j → Ogo p l e R s m args below meth c Z a0 EL L0 own nm bs ml rt T' (mkF m pc' ls st) Q) : Ogo p l e R s m args below meth c Z a0 EL L0 own nm bs ml rt T (mkF m pc ls (.int x :: .int jj :: .ref a :: st)) Q := by
  subst hp hy hv
  obtain ⟨cl, A1, A2, A3, A4, A5, A6⟩ := A
  obtain ⟨q1, q2⟩ := own_idx A4 hj hi
  refine own_wr W (v := .int (nar .byte x)) (sl := i) hS hL (fun vm0 X hZ ho => ?_) (fun T' h' w => K T' h' w (Arv.set (j := jj) A1 A2 A3 A4 A5 A6 (fits_nar_byte x) (by rw [q2]; exact w) i q2 hi'))
  have := stB X W.ex hZ W.2.1 A1 (j := jj) (x := x) (by rw [q2, A3]; intro z; rcases z with z | z; exact q1 z; omega) (g := mkF m pc ls (.int x :: .int jj :: .ref a :: st)) rfl rfl (W.hb hd)
  rw [q2] at this; exact this
theorem g_initO (W : Owk p l e R s m args below meth c Z a0 EL L0 own nm bs ml rt T h SF k j) {pc pc' idx : Nat} {ls : Array Slot} {st : List Value} {a : Addr} (hd : decode bs pc = .ok (.invokespecial idx, 3)) (hp : pc' = pc + 3) (w1 : (Cond.methodLink own idx Lib.objectInit).before a0 Z = true) (w2 : (Cond.instanceMethod Lib.objectInit).before a0 Z = true) (w3 : (Cond.code Lib.objectInit ⟨#[0xb1]⟩ 1 none).before a0 Z = true) (hsz : ls.size = ml) (hf : 1 ≤ R.frames) {w : Nat} (hW : (st.map fun v => v.category).sum ≤ w) (hl : w + 12 ≤ R.locals)
    (K : ∀ T', Owk p l e R s m args below meth c Z a0 EL L0 own nm bs ml rt T' h SF k j → Ogo p l e R s m args below meth c Z a0 EL L0 own nm bs ml rt T' (mkF m pc' ls st) Q) : Ogo p l e R s m args below meth c Z a0 EL L0 own nm bs ml rt T (mkF m pc ls (.ref a :: st)) Q := by
  subst hp; exact own_same W (fun vm0 X hZ ho => initO X W.ex hZ ho w1 w2 w3 W.2.1 (g := mkF m pc ls (.ref a :: st)) rfl (by rw [W.1.2.2.2.2.1]; exact hsz) rfl (W.hb hd) hf (W := w) (by show 2 * 0 + _ ≤ _; omega) hl) K
/-- ldc of a String constant of EL, read -/
theorem g_ldcS (W : Owk p l e R s m args below meth c Z a0 EL L0 own nm bs ml rt T h SF k j) {pc pc' idx : Nat} {ls : Array Slot} {st : List Value} {text : String} {vs : List Value} {z : Int32} {n : Nat} (hd : decode bs pc = .ok (.ldc idx, 2)) (hp : pc' = pc + 2) (w : (Cond.stringLink own idx text).before a0 Z = true) (wS : ∀ a ∈ Bundle.stringAtoms, a.before a0 Z = true) (hmem : (own, idx) ∈ EL)
    (ht : (∀ c ∈ text.toList, c.toNat < 256) ∧ text.toList.map (fun c => Value.int (Jvm.Lit.byteI c.toNat.toUInt16)) = vs) (hz : ¬ z < 0) (hl : z.toNatClampNeg = vs.length) (hn : 4 * text.toList.length ≤ n) (hbig : n ≤ 536870912) (hc : k + 2 ≤ R.cells) (hs : j + (n + 4) ≤ R.slots)
    (K : ∀ T' h' a b kb, Ext h h' → Exa Z h' a "java/lang/String" → Fld Z h' a "java/lang/String" "coder" "B" (.int 0) → Fld Z h' a "java/lang/String" "value" "[B" (.ref b) → Arv Z h' b kb .byte z vs (.int 0) → Owk p l e R s m args below meth c Z a0 EL L0 own nm bs ml rt T' h' SF (k + 2) (j + (n + 4)) → Ogo p l e R s m args below meth c Z a0 EL L0 own nm bs ml rt T' (mkF m pc' ls (.ref a :: st)) Q) : Ogo p l e R s m args below meth c Z a0 EL L0 own nm bs ml rt T (mkF m pc ls st) Q := by
  subst hp
  obtain ⟨w1, w2, w3, w4, w5, vm0, k0, X, w6, w7, w8, w9, w10⟩ := id W
  obtain ⟨a, T', h', k1, b, kb, X', e', E, hS', hk', hW', hf', f1, f2, f3, f4, f5, f6, C, -, -, st'⟩ := ldcCH X W.ex w6 (W.fc w7) w wS w2 w7 w8 w1.2.1 hmem w9.1 ht hz hl (g := mkF m pc ls st) rfl (W.hb hd) hn hbig hc hs
  exact own_step st' (K T' h' a b kb E f1 f2 f3 f4 ⟨w1, e', fun x hx => Nat.lt_of_lt_of_le (w3 x hx) E.1, hc, hs, T'.vm, k1, X', hW', hS', hk', w9.trans C, fun x hx => C.safe (w3 x hx) (w10 x hx)⟩)
theorem Owk.add (W : Owk p l e R s m args below meth c Z a0 EL L0 own nm bs ml rt T h SF k j) {a : Addr} {kC : ClassId} {ty : FieldType} {N : Int32} {vs : List Value} {dv : Value} (A : Arv Z h a kC ty N vs dv) (ht : ty ≠ .byte) : Owk p l e R s m args below meth c Z a0 EL L0 own nm bs ml rt T h (a :: SF) k j := by
  obtain ⟨w1, w2, w3, w4, w5, vm0, k0, X, w6, w7, w8, w9, w10⟩ := W
  refine ⟨w1, w2, fun x hx => ?_, w4, w5, vm0, k0, X, w6, w7, w8, w9, fun x hx => ?_⟩
  · rcases List.mem_cons.mp hx with rfl | q
    · exact A.lt
    · exact w3 x q
  · rcases List.mem_cons.mp hx with rfl | q
    · exact Safe.arv w6.alike A ht
    · exact w10 x q
theorem Owk.addE (W : Owk p l e R s m args below meth c Z a0 EL L0 own nm bs ml rt T h SF k j) {a : Addr} {C : String} (E : Exa Z h a C) (h1 : C ≠ "java/lang/String") (h2 : C ≠ "[B") : Owk p l e R s m args below meth c Z a0 EL L0 own nm bs ml rt T h (a :: SF) k j := by
  obtain ⟨w1, w2, w3, w4, w5, vm0, k0, X, w6, w7, w8, w9, w10⟩ := W
  refine ⟨w1, w2, fun x hx => ?_, w4, w5, vm0, k0, X, w6, w7, w8, w9, fun x hx => ?_⟩
  · rcases List.mem_cons.mp hx with rfl | q
    · exact E.lt
    · exact w3 x q
  · rcases List.mem_cons.mp hx with rfl | q
    · exact Safe.exa w6.alike E h1 h2
    · exact w10 x q
theorem g_instN (W : Owk p l e R s m args below meth c Z a0 EL L0 own nm bs ml rt T h SF k j) {pc pc' idx : Nat} {ls : Array Slot} {st : List Value} (hd : decode bs pc = .ok (.instanceof idx, 3)) (hp : pc' = pc + 3)
    (K : Ogo p l e R s m args below meth c Z a0 EL L0 own nm bs ml rt T (mkF m pc' ls (.int 0 :: st)) Q) : Ogo p l e R s m args below meth c Z a0 EL L0 own nm bs ml rt T (mkF m pc ls (.null :: st)) Q := by
  subst hp; exact own_here W (fun vm0 X hZ ho => X.instanceofNull W.ex (g := mkF m pc ls (.null :: st)) rfl rfl (W.hb hd)) K
theorem g_clone (W : Owk p l e R s m args below meth c Z a0 EL L0 own nm bs ml rt T h SF k j) {pc pc' idx : Nat} {ls : Array Slot} {st : List Value} {ad : String} {a : Addr} {kC : ClassId} {ty : FieldType} {N : Int32} {vs : List Value} {dv : Value} {w cap : Nat} (hd : decode bs pc = .ok (.invokevirtual idx, 3)) (hp : pc' = pc + 3)
    (w1 : (Jvm.Cond.methodLink own idx ⟨ad, "clone", "()Ljava/lang/Object;"⟩).before a0 Z = true) (w2 : (Jvm.Cond.sameMethod ad "java/lang/Object" "clone" "()Ljava/lang/Object;").before a0 Z = true) (w3 : (Jvm.Cond.native ⟨"java/lang/Object", "clone", "()Ljava/lang/Object;"⟩).before a0 Z = true) (w4 : (Jvm.Cond.instanceMethod ⟨"java/lang/Object", "clone", "()Ljava/lang/Object;"⟩).before a0 Z = true) (w5 : (Jvm.Cond.selects ad ⟨ad, "clone", "()Ljava/lang/Object;"⟩ ⟨"java/lang/Object", "clone", "()Ljava/lang/Object;"⟩).before a0 Z = true) (w6 : (Jvm.Cond.castable ad "java/lang/Cloneable").before a0 Z = true)
    (A : Arv Z h a kC ty N vs dv) (E : Exa Z h a ad) (hsz : ls.size = ml) (hf : 1 ≤ R.frames) (hW : (st.map fun v => v.category).sum ≤ w) (hl : w + 14 ≤ R.locals) (hcap : N.toNatClampNeg ≤ cap) (hc : k + 1 ≤ R.cells) (hsl : j + cap ≤ R.slots)
    (K : ∀ T' h', Ext h h' → Arv Z h' h.size kC ty N vs dv → Exa Z h' h.size ad → Owk p l e R s m args below meth c Z a0 EL L0 own nm bs ml rt T' h' SF (k + 1) (j + cap) → Ogo p l e R s m args below meth c Z a0 EL L0 own nm bs ml rt T' (mkF m pc' ls (.ref h.size :: st)) Q) : Ogo p l e R s m args below meth c Z a0 EL L0 own nm bs ml rt T (mkF m pc ls (.ref a :: st)) Q := by
  subst hp
  obtain ⟨x1, x2, x3, x4, x5, vm0, k0, X, x6, x7, x8, x9, x10⟩ := id W
  obtain ⟨T', h', X', e', E', A', F', st'⟩ := cloneH X W.ex x6 (W.fc x7) w1 w2 w3 w4 w5 w6 x2 A.arh E (g := mkF m pc ls (.ref a :: st)) rfl (by rw [x1.2.2.2.2.1]; exact hsz) rfl (W.hb hd) hf (W := w) (by show 2 * 0 + _ ≤ _; omega) hl hcap hc hsl
  exact own_step st' (K T' h' E' A' F' ⟨x1, e', fun x hx => Nat.lt_of_lt_of_le (x3 x hx) E'.1, hc, hsl, vm0, k0, X', x6, x7, Nat.le_trans x8 E'.1, x9.trans (CHr.ext E' x9.1), fun x hx => (x10 x hx).ext E' x9.1⟩)
/-! returns -/
theorem g_ret (W : Owk p l e R s m args below meth c Z a0 EL L0 own nm bs ml rt T h SF k j) {pc : Nat} {ls : Array Slot} {st : List Value} {i : Instr} {t : FieldType} {v : Value} (hd : decode bs pc = .ok (i, 1)) (hr : rt = some t) (hn : narrow t v = v)
    (hi : (i = .ireturn ∧ (t = .int ∨ t = .boolean ∨ t = .byte ∨ t = .char ∨ t = .short) ∧ ∃ z, v = .int z) ∨ (i = .lreturn ∧ t = .long ∧ ∃ z, v = .long z) ∨ (i = .dreturn ∧ t = .double ∧ ∃ z, v = .double z) ∨ (i = .freturn ∧ t = .float ∧ ∃ z, v = .float z) ∨ (i = .areturn ∧ t.isReference = true ∧ v.isRef = true)) (q : Q (some v) h SF) : Ogo p l e R s m args below meth c Z a0 EL L0 own nm bs ml rt T (mkF m pc ls (v :: st)) Q := by
  obtain ⟨w1, w2, w3, w4, w5, vm0, k0, X, w6, w7, w8, w9, w10⟩ := id W
  exact ⟨T, some v, h, SF, k, j, W, (fun z => by rw [hr] at z; cases z), q, fun fs hl => retOut X W.ex (by rw [← hr]; exact w1.2.2.2.2.2.1) hn hi (W.hb hd) hl⟩
theorem g_return (W : Owk p l e R s m args below meth c Z a0 EL L0 own nm bs ml rt T h SF k j) {pc : Nat} {ls : Array Slot} (hd : decode bs pc = .ok (.return_, 1)) (hr : rt = none) (q : Q none h SF) : Ogo p l e R s m args below meth c Z a0 EL L0 own nm bs ml rt T (mkF m pc ls []) Q := by
  obtain ⟨w1, w2, w3, w4, w5, vm0, k0, X, w6, w7, w8, w9, w10⟩ := id W
  exact ⟨T, none, h, SF, k, j, W, fun _ => rfl, q, fun fs hl => X.returnOut W.ex (by rw [← hr]; exact w1.2.2.2.2.2.1) (W.hb hd) hl⟩
theorem g_iret (W : Owk p l e R s m args below meth c Z a0 EL L0 own nm bs ml rt T h SF k j) {pc : Nat} {ls : Array Slot} {st : List Value} {t : FieldType} {z : Int32} (hd : decode bs pc = .ok (.ireturn, 1)) (hr : rt = some t) (ht : t = .int ∨ t = .boolean ∨ t = .byte ∨ t = .char ∨ t = .short) (hn : narrow t (.int z) = .int z) (q : Q (some (.int z)) h SF) : Ogo p l e R s m args below meth c Z a0 EL L0 own nm bs ml rt T (mkF m pc ls (.int z :: st)) Q :=
  g_ret W hd hr hn (Or.inl ⟨rfl, ht, z, rfl⟩) q
theorem g_aret (W : Owk p l e R s m args below meth c Z a0 EL L0 own nm bs ml rt T h SF k j) {pc : Nat} {ls : Array Slot} {st : List Value} {t : FieldType} {v : Value} (hd : decode bs pc = .ok (.areturn, 1)) (hr : rt = some t) (ht : t.isReference = true) (hv : v.isRef = true) (hn : narrow t v = v) (q : Q (some v) h SF) : Ogo p l e R s m args below meth c Z a0 EL L0 own nm bs ml rt T (mkF m pc ls (v :: st)) Q :=
  g_ret W hd hr hn (Or.inr (Or.inr (Or.inr (Or.inr ⟨rfl, ht, hv⟩)))) q
/-! contracts -/
/-- y, called with as' at the heap h (whose cells ySF may be written), comes back with Q; of the old it writes the places yL alone -/
def Ocon (l : Launch) (Z : State) (EL : List (String × Nat)) (y : MethodName) (bs : ByteArray) (ml : Nat) (rt : Option FieldType) (ws : List Jvm.Cond) (rm : Room) (as' : Array Value) (h : Heap) (SF : List Addr) (L0 : List Loc) (Q : Option Value → Heap → List Addr → Prop) : Prop :=
  MetFree l y (head1 (Jvm.Cond.code y bs ml rt :: ws) rm) (fun a U => a = as' ∧ Z.Warmed39 U.vm ∧ U.heap = h ∧ CHv Z EL U.vm h ∧ ∀ x ∈ SF, x < h.size ∧ Safe Z EL U.vm h x) (fun _ _ _ _ _ => True)
    (fun _ U o U' => ∃ v SFo, o = .returned v ∧ Q v U'.heap SFo ∧ (∀ x ∈ SFo, x < U'.heap.size ∧ Safe Z EL U'.vm U'.heap x) ∧ CHr Z EL U.vm U.heap U'.vm U'.heap ∧ ReturnedEndW U o U' L0 rm.cells rm.slots)
theorem own_con {y : MethodName} {ws : List Jvm.Cond} {rm : Room} {as' : Array Value} {h0 : Heap} (hEL : EW Z a0 EL) (hpl : plainFor y = true)
    (go : ∀ (p : Program) (e : Env) (s : State) (m : MethodId) (below : List Frame) (meth : Method) (c : Code) (T : State), s.heap = h0 → Owk p l e rm s m as' below meth c Z a0 EL L0 y.cls y.name bs ml rt T h0 SF 0 0 → Ogo p l e rm s m as' below meth c Z a0 EL L0 y.cls y.name bs ml rt T (entryFrame m as' ml) Q) :
    Ocon l Z EL y bs ml rt ws rm as' h0 SF L0 Q := by
  refine MetFree.of_bodySF hpl hisR ?_
  intro p e s m args below meth c s₁ Bd hml hP hK
  obtain ⟨rfl, hZ, hh, hC, hS⟩ := hP
  have X0 : Stand p l e rm s m args below meth c s₁ [] 0 0 := Stand.of_body Bd
  have hlk : meth.locks = false := BodyLoose.notSynchronized Bd
  have e0 : s₁.heap = h0 := by rw [← hh, Bd.state]; rfl
  have X1 : Stand p l e rm (s.setVm s.vm) m args below meth c s₁ L0 0 0 := X0.sift (fun x hx => by cases hx)
  obtain ⟨T', v, h', SF', k', j', W', hv, hq, st⟩ := go p e s m below meth c s₁ hh ⟨⟨Bd.exec, hEL, findClass_of_methodNamed Bd.named, Bd.bytes, hml, Bd.returns, hlk, (name_of_methodNamed Bd.named Bd.method).1⟩, e0, fun x hx => (hS x hx).1, Nat.zero_le _, Nat.zero_le _, s.vm, s.heap.size, X1, hZ, (State.WarmedH.refl s).since _, by rw [hh]; exact Nat.le_refl _, by rw [hh]; exact CHr.refl hC, fun x hx => (hS x hx).2⟩
  obtain ⟨w1, w2, w3, w4, w5, vm0, k0, X, w6, w7, w8, w9, w10⟩ := W'
  obtain ⟨fs, hl, hrun, hend, hret⟩ := (X.mono w4 w5).leaveW (v := v) w7 (by rw [w2]; exact w8) (fun z => hv (by rw [← z]; exact Bd.returns.symm ▸ rfl)) hlk
  have A := CHv.at X w6 hEL w9.1
  refine ⟨_, _, st fs hl, hrun, hend, v, SF', rfl, by rw [show (T'.setFrames fs).heap = T'.heap from rfl, w2]; exact hq, fun x hx => ?_, ?_, hret⟩
  · show x < T'.heap.size ∧ Safe Z EL T'.vm T'.heap x
    rw [w2]; exact ⟨w3 x hx, A.safe (w3 x hx) (w10 x hx)⟩
  have q : CHr Z EL s.vm s.heap T'.vm h' := w9.trans A
  show CHr Z EL s.vm s.heap T'.vm T'.heap
  rw [w2]; exact q
section Calls
variable {y : MethodName} {yb : ByteArray} {yl : Nat} {yr : Option FieldType} {rm : Room} {as' : Array Value} {ySF : List Addr} {yL : List Loc} {yQ : Option Value → Heap → List Addr → Prop}
theorem own_back {vm0 : Vm} {len w : Nat} (con : Ocon l Z EL y yb yl yr [] rm as' h ySF yL yQ) (hZ : Z.Warmed39 vm0) (wc : (Jvm.Cond.code y yb yl yr).before a0 Z = true) (wz : (Jvm.Cond.initialized y.cls).before a0 Z = true) (hf : rm.frames + 1 ≤ R.frames) (hl : w + (yl + 11) + rm.locals ≤ R.locals) (hEL : EW Z a0 EL) (H : CHv Z EL vm0 h) (hS : ∀ x ∈ ySF, x < h.size ∧ Safe Z EL vm0 h x) :
    BackS l R p e below (s.setVm vm0) args y len w (fun A a => a = as' ∧ A.U.heap = h ∧ A.cells + rm.cells ≤ R.cells ∧ A.slots + rm.slots ≤ R.slots)
      (fun A _ v B => ∃ SFo, yQ v B.U.heap SFo ∧ (∀ x ∈ SFo, x < B.U.heap.size ∧ Safe Z EL B.U.vm B.U.heap x) ∧ B.locs = A.locs ++ yL ∧ B.cells = A.cells + rm.cells ∧ B.slots = A.slots + rm.slots ∧ CHr Z EL vm0 h B.U.vm B.U.heap) :=
  BackS.of_freeW (bytes := yb) (maxL := yl) (ret := yr) (E := fun _ first o t L k n => L = yL ∧ k = rm.cells ∧ n = rm.slots ∧ (∃ v SFo, o = .returned v ∧ yQ v t.heap SFo ∧ ∀ x ∈ SFo, x < t.heap.size ∧ Safe Z EL t.vm t.heap x) ∧ CHr Z EL first.vm first.heap t.vm t.heap) con hf hl
    (fun m meth c A a Y hp => have hU : Z.Warmed39 A.U.vm := wtrans (s := s.setVm vm0) hZ Y.warmed
      ⟨by show (Jvm.Cond.and _ .tt).before a A.U = true; rw [Cond.before_and, mv hU wc]; rfl, mv hU wc, mv hU wz, hp.2.2.1, hp.2.2.2⟩)
    (fun m meth c A a g mk Y hp => ⟨hp.1, wtrans (s := s.setVm vm0) hZ Y.warmed, hp.2.1, (CHv.at Y hZ hEL H).1, fun x hx => ⟨(hS x hx).1, (CHv.at Y hZ hEL H).safe (hS x hx).1 (hS x hx).2⟩⟩) (fun _ _ _ _ _ _ _ _ _ => trivial)
    (fun _ _ _ _ ⟨v, SFo, h1, h2, h2', h3, h4⟩ => ⟨yL, _, _, h4, rfl, rfl, rfl, ⟨v, SFo, h1, h2, h2'⟩, h3⟩)
    (fun m meth c A a g mk v t L k n Y hp _ _ ⟨e0, e1, e2, ⟨v', SFo, e3, e4, e4'⟩, e5⟩ => by
      cases e3; subst e0 e1 e2
      refine ⟨SFo, e4, e4', rfl, rfl, rfl, (CHv.at Y hZ hEL H).trans ?_⟩
      rw [← hp.2.1]; exact e5)
theorem own_after {SFo : List Addr} (W : Owk p l e R s m args below meth c Z a0 EL L0 own nm bs ml rt T h SF k j) {vm0 vm1 : Vm} {k0 : Nat} {B : Pt} (hS0 : s.Since vm0 k0) (hk0 : k0 ≤ h.size) (hZ : Z.Warmed39 vm0) (C0 : CHr Z EL s.vm s.heap vm0 h) (hsf : ∀ x ∈ SF, Safe Z EL vm0 h x) (hL : ∀ q ∈ yL, q ∈ L0 ∨ s.heap.size ≤ q.base) (hcl : k + rm.cells ≤ R.cells) (hsl : j + rm.slots ≤ R.slots)
    (X : Stand p l e R ((s.setVm vm0).setVm B.U.vm) m args below meth c B.U B.locs B.cells B.slots) (hS : (s.setVm vm0).Since B.U.vm B.U.heap.size) (hg : h.size ≤ B.U.heap.size) (hso : ∀ x ∈ SFo, x < B.U.heap.size ∧ Safe Z EL B.U.vm B.U.heap x) (el : B.locs = L0 ++ yL) (ec : B.cells = k + rm.cells) (es : B.slots = j + rm.slots) (C : CHr Z EL vm0 h B.U.vm B.U.heap) : Owk p l e R s m args below meth c Z a0 EL L0 own nm bs ml rt B.U B.U.heap (SFo ++ SF) (k + rm.cells) (j + rm.slots) := by
  rw [el, ec, es] at X
  have X2 := X.sift (L' := L0) (fun x hx => by
    rcases List.mem_append.mp hx with q | q
    · exact Or.inl q
    · exact hL x q)
  have hS2 : s.Since B.U.vm B.U.heap.size := hS0.trans hS (Nat.le_trans hk0 hg)
  exact ⟨W.1, rfl, fun x hx => (List.mem_append.mp hx).elim (fun q => (hso x q).1) (fun q => Nat.lt_of_lt_of_le (W.2.2.1 x q) hg), hcl, hsl, B.U.vm, _, X2, State.Warmed39.trans (t := s.setVm vm0) hZ hS.1, hS2, Nat.le_refl _, C0.trans C, fun x hx => (List.mem_append.mp hx).elim (fun q => (hso x q).2) (fun q => C.safe (W.2.2.1 x q) (hsf x q))⟩
theorem g_static (W : Owk p l e R s m args below meth c Z a0 EL L0 own nm bs ml rt T h SF k j) {pc pc' idx w : Nat} {ls : Array Slot} {argsL st stk : List Value} {ps : List FieldType} (hd : decode bs pc = .ok (.invokestatic idx, 3)) (hp : pc' = pc + 3) (w1 : (Jvm.Cond.methodLink own idx y).before a0 Z = true) (w2 : (Jvm.Cond.static y).before a0 Z = true) (w3 : (Jvm.Cond.initialized y.cls).before a0 Z = true) (w4 : (Jvm.Cond.code y yb yl yr).before a0 Z = true)
    (hy : y.cls ≠ "java/lang/invoke/MethodHandle" ∧ y.cls ≠ "java/lang/invoke/VarHandle") (con : Ocon l Z EL y yb yl yr [] rm as' h ySF yL yQ) (hpd : parseMethodDescriptor y.desc = some ⟨ps, yr⟩) (hln : argsL.length = ps.length) (hstk : stk = argsL.reverse ++ st) (has : as' = argsL.toArray) (hsz : ls.size = ml) (hf : rm.frames + 1 ≤ R.frames) (hW : (st.map fun v => v.category).sum ≤ w) (hlo : w + (yl + 11) + rm.locals ≤ R.locals) (hcl : k + rm.cells ≤ R.cells) (hsl : j + rm.slots ≤ R.slots) (hSF : ∀ x ∈ ySF, x ∈ SF) (hL : ∀ q ∈ yL, q ∈ L0 ∨ s.heap.size ≤ q.base)
    (K : ∀ v T' h' SFo, yQ v h' SFo → Owk p l e R s m args below meth c Z a0 EL L0 own nm bs ml rt T' h' (SFo ++ SF) (k + rm.cells) (j + rm.slots) → Ogo p l e R s m args below meth c Z a0 EL L0 own nm bs ml rt T' (mkF m pc' ls (v.toList ++ st)) Q) : Ogo p l e R s m args below meth c Z a0 EL L0 own nm bs ml rt T (mkF m pc ls stk) Q := by
  subst hp hstk has
  obtain ⟨x1, x2, x3, x4, x5, vm0, k0, X, x6, x7, x8, x9, x10⟩ := id W
  have m1 : (Jvm.Cond.code y yb yl yr).before args (s.setVm vm0) = true := mvT (s := s.setVm vm0) x6 w4
  obtain ⟨mk, hnamed⟩ := Cond.code_named m1
  obtain ⟨methM, cM, hmethM, -, -, -, -, -, -, hsigM⟩ := Cond.code_spec hnamed m1
  obtain ⟨v, vm1, B, -, X', hS', hg', ⟨SFo, q1, q0, q2, q3, q4, q5⟩, come⟩ := X.staticBackS W.ex (W.fc x7) (mvT (s := s.setVm vm0) x6 w1) (mvT (s := s.setVm vm0) x6 w2) (mvT (s := s.setVm vm0) x6 w3) hnamed hmethM hsigM hy
    (own_back (w := w) con x6 w4 w3 hf hlo x1.2.1 x9.1 (fun x hx => ⟨x3 x (hSF x hx), x10 x (hSF x hx)⟩)) (g := mkF m pc ls (argsL.reverse ++ st)) rfl (by rw [x1.2.2.2.2.1]; exact hsz) (Steps.refl _) (lenOf hpd hln) rfl (by show 2 * 0 + _ ≤ _; omega) (W.hb hd) (fun vm1 _ => ⟨rfl, x2, hcl, hsl⟩)
  rw [x2] at hg'
  exact own_step (fun t q => come.trans q) (K v B.U B.U.heap SFo q1 (own_after (vm1 := vm1) W x7 x8 x6 x9 x10 hL hcl hsl X' hS' hg' q0 q2 q3 q4 q5))
theorem g_special (W : Owk p l e R s m args below meth c Z a0 EL L0 own nm bs ml rt T h SF k j) {pc pc' idx w : Nat} {ls : Array Slot} {a : Addr} {argsL st stk : List Value} {ps : List FieldType} (hd : decode bs pc = .ok (.invokespecial idx, 3)) (hp : pc' = pc + 3) (hy1 : y.name = "<init>") (w1 : (Jvm.Cond.methodLink own idx y).before a0 Z = true) (w2 : (Jvm.Cond.instanceMethod y).before a0 Z = true) (w3 : (Jvm.Cond.initialized y.cls).before a0 Z = true) (w4 : (Jvm.Cond.code y yb yl none).before a0 Z = true)
    (hy : y.cls ≠ "java/lang/invoke/MethodHandle" ∧ y.cls ≠ "java/lang/invoke/VarHandle") (con : Ocon l Z EL y yb yl none [] rm as' h ySF yL yQ) (hpd : parseMethodDescriptor y.desc = some ⟨ps, none⟩) (hln : argsL.length = ps.length) (hstk : stk = argsL.reverse ++ .ref a :: st) (has : as' = (.ref a :: argsL).toArray) (hsz : ls.size = ml) (hf : rm.frames + 1 ≤ R.frames) (hW : (st.map fun v => v.category).sum ≤ w) (hlo : w + (yl + 11) + rm.locals ≤ R.locals) (hcl : k + rm.cells ≤ R.cells) (hsl : j + rm.slots ≤ R.slots) (hSF : ∀ x ∈ ySF, x ∈ SF) (hL : ∀ q ∈ yL, q ∈ L0 ∨ s.heap.size ≤ q.base)
    (K : ∀ v T' h' SFo, yQ v h' SFo → Owk p l e R s m args below meth c Z a0 EL L0 own nm bs ml rt T' h' (SFo ++ SF) (k + rm.cells) (j + rm.slots) → Ogo p l e R s m args below meth c Z a0 EL L0 own nm bs ml rt T' (mkF m pc' ls (v.toList ++ st)) Q) : Ogo p l e R s m args below meth c Z a0 EL L0 own nm bs ml rt T (mkF m pc ls stk) Q := by
  subst hp hstk has
  obtain ⟨x1, x2, x3, x4, x5, vm0, k0, X, x6, x7, x8, x9, x10⟩ := id W
  obtain ⟨v, vm1, B, -, X', hS', hg', ⟨SFo, q1, q0, q2, q3, q4, q5⟩, come⟩ := X.specialBackS W.ex hy1 (W.fc x7) (mvT (s := s.setVm vm0) x6 w1) (mvT (s := s.setVm vm0) x6 w2) (mvT (s := s.setVm vm0) x6 w4) hy
    (own_back (w := w) con x6 w4 w3 hf hlo x1.2.1 x9.1 (fun x hx => ⟨x3 x (hSF x hx), x10 x (hSF x hx)⟩)) (g := mkF m pc ls (argsL.reverse ++ .ref a :: st)) rfl (by rw [x1.2.2.2.2.1]; exact hsz) (Steps.refl _) (lenOf hpd hln) rfl (by show 2 * 0 + _ ≤ _; omega) (W.hb hd) (fun vm1 _ => ⟨rfl, x2, hcl, hsl⟩)
  rw [x2] at hg'
  exact own_step (fun t q => come.trans q) (K v B.U B.U.heap SFo q1 (own_after (vm1 := vm1) W x7 x8 x6 x9 x10 hL hcl hsl X' hS' hg' q0 q2 q3 q4 q5))
theorem g_virtual (W : Owk p l e R s m args below meth c Z a0 EL L0 own nm bs ml rt T h SF k j) {pc pc' idx w : Nat} {ls : Array Slot} {a : Addr} {C : String} {yd : MethodName} {argsL st stk : List Value} {ps : List FieldType} (hd : decode bs pc = .ok (.invokevirtual idx, 3)) (hp : pc' = pc + 3) (w1 : (Jvm.Cond.methodLink own idx yd).before a0 Z = true) (w5 : (Jvm.Cond.declares yd).before a0 Z = true) (w7 : (Jvm.Cond.selects yd.cls yd yd).before a0 Z = true) (w6 : (Jvm.Cond.selects C yd y).before a0 Z = true) (w2 : (Jvm.Cond.instanceMethod y).before a0 Z = true) (w3 : (Jvm.Cond.initialized y.cls).before a0 Z = true) (w4 : (Jvm.Cond.code y yb yl yr).before a0 Z = true)
    (hy : yd.cls ≠ "java/lang/invoke/MethodHandle" ∧ yd.cls ≠ "java/lang/invoke/VarHandle") (E : Exa Z h a C) (con : Ocon l Z EL y yb yl yr [] rm as' h ySF yL yQ) (hpd : parseMethodDescriptor yd.desc = some ⟨ps, yr⟩) (hln : argsL.length = ps.length) (hstk : stk = argsL.reverse ++ .ref a :: st) (has : as' = (.ref a :: argsL).toArray) (hsz : ls.size = ml) (hf : rm.frames + 1 ≤ R.frames) (hW : (st.map fun v => v.category).sum ≤ w) (hlo : w + (yl + 11) + rm.locals ≤ R.locals) (hcl : k + rm.cells ≤ R.cells) (hsl : j + rm.slots ≤ R.slots) (hSF : ∀ x ∈ ySF, x ∈ SF) (hL : ∀ q ∈ yL, q ∈ L0 ∨ s.heap.size ≤ q.base)
    (K : ∀ v T' h' SFo, yQ v h' SFo → Owk p l e R s m args below meth c Z a0 EL L0 own nm bs ml rt T' h' (SFo ++ SF) (k + rm.cells) (j + rm.slots) → Ogo p l e R s m args below meth c Z a0 EL L0 own nm bs ml rt T' (mkF m pc' ls (v.toList ++ st)) Q) : Ogo p l e R s m args below meth c Z a0 EL L0 own nm bs ml rt T (mkF m pc ls stk) Q := by
  subst hp hstk has
  obtain ⟨x1, x2, x3, x4, x5, vm0, k0, X, x6, x7, x8, x9, x10⟩ := id W
  obtain ⟨cq, kq, qa, -, qc⟩ := isOf (s := s.setVm vm0) x6 x2 E
  obtain ⟨v, vm1, B, -, X', hS', hg', ⟨SFo, q1, q0, q2, q3, q4, q5⟩, come⟩ := X.virtualBackS W.ex (W.fc x7) (mvT (s := s.setVm vm0) x6 w1) (mvT (s := s.setVm vm0) x6 w5) (notFace_of_selects (args := #[]) (mvT (s := s.setVm vm0) x6 w7)) (mvT (s := s.setVm vm0) x6 w6) (mvT (s := s.setVm vm0) x6 w2) hy
    (own_back (w := w) con x6 w4 w3 hf hlo x1.2.1 x9.1 (fun x hx => ⟨x3 x (hSF x hx), x10 x (hSF x hx)⟩)) qa qc (g := mkF m pc ls (argsL.reverse ++ .ref a :: st)) rfl (by rw [x1.2.2.2.2.1]; exact hsz) (Steps.refl _) (lenOf hpd hln) rfl (by show 2 * 0 + _ ≤ _; omega) (W.hb hd) (fun vm1 _ => ⟨rfl, x2, hcl, hsl⟩)
  rw [x2] at hg'
  exact own_step (fun t q => come.trans q) (K v B.U B.U.heap SFo q1 (own_after (vm1 := vm1) W x7 x8 x6 x9 x10 hL hcl hsl X' hS' hg' q0 q2 q3 q4 q5))
/-- a virtual call paid by a narrow law that leaves the heap as it is -/
theorem g_virtualB (W : Owk p l e R s m args below meth c Z a0 EL L0 own nm bs ml rt T h SF k j) {pc pc' idx w : Nat} {ls : Array Slot} {a : Addr} {C : String} {yd : MethodName} {argsL st stk : List Value} {ps : List FieldType} {yR : Option Value → Prop} (hd : decode bs pc = .ok (.invokevirtual idx, 3)) (hp : pc' = pc + 3) (w1 : (Jvm.Cond.methodLink own idx yd).before a0 Z = true) (w5 : (Jvm.Cond.declares yd).before a0 Z = true) (w7 : (Jvm.Cond.selects yd.cls yd yd).before a0 Z = true) (w6 : (Jvm.Cond.selects C yd y).before a0 Z = true) (w2 : (Jvm.Cond.instanceMethod y).before a0 Z = true)
    (hy : yd.cls ≠ "java/lang/invoke/MethodHandle" ∧ yd.cls ≠ "java/lang/invoke/VarHandle") (E : Exa Z h a C)
    (pay : ∀ vm0, Z.Warmed39 vm0 → Back l R p e below (s.setVm vm0) args y 3 w (fun P a' => a' = as' ∧ P.U.heap = h ∧ P.cells + 0 ≤ R.cells ∧ P.slots + 0 ≤ R.slots) (fun P _ v B => ∃ L, (yR v ∧ L = [] ∧ B.U.heap = h) ∧ B.locs = P.locs ++ L ∧ B.cells = P.cells + 0 ∧ B.slots = P.slots + 0))
    (hpd : parseMethodDescriptor yd.desc = some ⟨ps, yr⟩) (hln : argsL.length = ps.length) (hstk : stk = argsL.reverse ++ .ref a :: st) (has : as' = (.ref a :: argsL).toArray) (hsz : ls.size = ml) (hW : (st.map fun v => v.category).sum ≤ w)
    (K : ∀ v T', yR v → Owk p l e R s m args below meth c Z a0 EL L0 own nm bs ml rt T' h SF k j → Ogo p l e R s m args below meth c Z a0 EL L0 own nm bs ml rt T' (mkF m pc' ls (v.toList ++ st)) Q) : Ogo p l e R s m args below meth c Z a0 EL L0 own nm bs ml rt T (mkF m pc ls stk) Q := by
  subst hp hstk has
  obtain ⟨x1, x2, x3, x4, x5, vm0, k0, X, x6, x7, x8, x9, x10⟩ := id W
  obtain ⟨cq, kq, qa, -, qc⟩ := isOf (s := s.setVm vm0) x6 x2 E
  obtain ⟨v, vm1, ⟨T', L', k', j'⟩, -, X', ⟨L, ⟨q1, q2, q3⟩, q4, q5, q6⟩, come⟩ := X.virtualBack W.ex (W.fc x7) (mvT (s := s.setVm vm0) x6 w1) (mvT (s := s.setVm vm0) x6 w5) (notFace_of_selects (args := #[]) (mvT (s := s.setVm vm0) x6 w7)) (mvT (s := s.setVm vm0) x6 w6) (mvT (s := s.setVm vm0) x6 w2) hy
    (pay vm0 x6) qa qc (g := mkF m pc ls (argsL.reverse ++ .ref a :: st)) rfl (by rw [x1.2.2.2.2.1]; exact hsz) (Steps.refl _) (lenOf hpd hln) rfl (by show 2 * 0 + _ ≤ _; omega) (W.hb hd) (fun vm1 _ => ⟨rfl, x2, x4, x5⟩)
  dsimp only [Pt.U, Pt.locs, Pt.cells, Pt.slots] at X' q3 q4 q5 q6 come
  subst q2 q4 q5 q6
  rw [List.append_nil] at X'
  exact own_step (fun t q => come.trans q) (K v T' q1 ⟨x1, q3, x3, x4, x5, vm0, k0, X', x6, x7, x8, x9, x10⟩)
end Calls
end OwnLayer
/-! plain facts on numbers and lists -/
open StrChars in
theorem own_lo8 (x : Int32) : nar .byte (x.toInt8.toInt32) = lo8 x := by
  show x.toInt8.toInt32.toInt8.toInt32 = x.toInt8.toInt32
  rw [Int8.toInt8_toInt32]
theorem own_lt {i n : Nat} (hn : n < 2 ^ 30) (h : i < n) : Int32.ofNat i < Int32.ofNat n := Jvm.Free.XT.lt32 (by omega) h
theorem own_succ (i : Nat) : Int32.ofNat i + Int32.ofInt 1 = Int32.ofNat (i + 1) := by rw [Int32.ofNat_add]; rfl
theorem own_nn {n : Nat} (hn : n < 2 ^ 30) : ¬ Int32.ofNat n < 0 := Int32.ofNat_not_neg (by omega)
theorem own_clamp {n : Nat} (hn : n < 2 ^ 30) : (Int32.ofNat n).toNatClampNeg = n := Jvm.Free.XT.n32 (by omega)
theorem own_getI (cs : List Int32) (dv : Value) {i : Nat} (h : i < cs.length) : (cs.map Value.int).getD i dv = .int (cs.getD i 0) := by
  simp [List.getD_eq_getElem?_getD, h]
open StrChars in
/-- the byte[] when the first r chars are laid -/
def own_cmp (cs : List Int32) (n r : Nat) : List Value := ((cs.take r).map fun c => Value.int (lo8 c)) ++ List.replicate (n - r) (.int 0)
theorem own_cmp0 (cs : List Int32) (n : Nat) : own_cmp cs n 0 = List.replicate n (.int 0) := by simp [own_cmp]
open StrChars in
theorem own_cmpn (cs : List Int32) {n : Nat} (hn : cs.length = n) : own_cmp cs n n = cs.map fun c => Value.int (lo8 c) := by subst hn; simp [own_cmp]
theorem own_cmplen (cs : List Int32) {n r : Nat} (hn : cs.length = n) (h : r ≤ n) : (own_cmp cs n r).length = n := by simp [own_cmp, hn]; omega
open StrChars in
theorem own_cmpset (cs : List Int32) {n i : Nat} (hn : cs.length = n) (h : i < n) : (own_cmp cs n i).set i (.int (lo8 (cs.getD i 0))) = own_cmp cs n (i + 1) := by
  have hl : i < cs.length := by omega
  have e1 : cs.take (i + 1) = cs.take i ++ [cs.getD i 0] := by
    rw [List.take_succ]; simp [List.getD_eq_getElem?_getD, hl]
  have e2 : ((cs.take i).map fun c => Value.int (lo8 c)).length = i := by simp; omega
  have e3 : List.replicate (n - i) (Value.int 0) = .int 0 :: List.replicate (n - (i + 1)) (.int 0) := by
    rw [show n - i = n - (i + 1) + 1 by omega]; rfl
  unfold own_cmp
  rw [e1, List.map_append, e3, List.set_append_right _ _ (by omega), e2]
  simp
open StrChars.Road in
/-- x is a String of the chars cs -/
def OStr (Z : State) (h : Heap) (x : Addr) (cs : List Int32) : Prop := Exa Z h x "java/lang/String" ∧ (∀ c ∈ cs, ¬ c < 0 ∧ ¬ (65535 : Int32) < c) ∧ ∃ (t : Addr) (kb : ClassId) (cd N2 : Int32) (vs : List Value), Fld Z h x "java/lang/String" "value" "[B" (.ref t) ∧ Fld Z h x "java/lang/String" "coder" "B" (.int cd) ∧ Arv Z h t kb .byte N2 vs (.int 0) ∧ CodA cs cd N2 vs
theorem OStr.ext {Z : State} {h h' : Heap} {x : Addr} {cs : List Int32} (S : OStr Z h x cs) (E : Ext h h') : OStr Z h' x cs := by
  obtain ⟨s1, s2, t, kb, cd, N2, vs, s3, s4, s5, s6⟩ := S
  exact ⟨s1.ext E, s2, t, kb, cd, N2, vs, s3.ext E, s4.ext E, s5.ext E, s6⟩
theorem own_ext_wr {h h1 h2 : Heap} {a : Addr} {sl : Nat} {v : Value} (E : Ext h h1) (W : Wr h1 h2 a sl v) (q : h.size ≤ a) : Ext h h2 := by
  refine ⟨by rw [W.size]; exact E.1, fun x c hx => ?_⟩
  obtain ⟨cb', e1, -, -, -, e2, -⟩ := wr_at W (E.2 x c hx)
  have := (Array.getElem?_eq_some_iff.mp hx).1
  rw [e2 (Nat.ne_of_lt (Nat.lt_of_lt_of_le this q))] at e1; exact e1
theorem own_ext_keep {h h1 h2 : Heap} {ws : List Addr} (E : Ext h h1) (K : Keep h1 h2 ws) (q : ∀ x ∈ ws, h.size ≤ x) : Ext h h2 := by
  refine ⟨Nat.le_trans E.1 K.1, fun x c hx => K.2.1 x c (E.2 x c hx) fun z => ?_⟩
  have := (Array.getElem?_eq_some_iff.mp hx).1
  have := q x z
  omega
theorem own_ext_tr {h h1 h2 : Heap} (E : Ext h h1) (F : Ext h1 h2) : Ext h h2 := ⟨Nat.le_trans E.1 F.1, fun x c hx => F.2 x c (E.2 x c hx)⟩
theorem own_ext_rf (h : Heap) : Ext h h := ⟨Nat.le_refl _, fun _ _ q => q⟩
theorem own_keep_ext {h h' : Heap} {ws : List Addr} (E : Ext h h') : Keep h h' ws := (Keep.refl h ws).ext E
theorem own_pad0 {Z : State} {h : Heap} {a : Addr} {k : ClassId} {ty : FieldType} {N : Int32} {dv : Value} (n : Nat) (A : Arv Z h a k ty N [] dv) : Arv Z h a k ty N (List.replicate n dv) dv := A.pad fun i => by simpa using pad_rep [] dv n i
theorem own_b0 : ∀ c ∈ ([] : List Int32), ¬ c < 0 ∧ ¬ (255 : Int32) < c := fun _ q => nomatch q
theorem own_bc {c : Int32} {cs : List Int32} (q : ¬ c < 0 ∧ ¬ (255 : Int32) < c) (r : ∀ c ∈ cs, ¬ c < 0 ∧ ¬ (255 : Int32) < c) : ∀ x ∈ c :: cs, ¬ x < 0 ∧ ¬ (255 : Int32) < x := fun x hx => by
  rcases List.mem_cons.mp hx with rfl | z
  · exact q
  · exact r x z
theorem own_b255 (w : Int32) : ¬ (w &&& 255) < 0 ∧ ¬ (255 : Int32) < (w &&& 255) := by
  have q := c_and w 255 (by decide)
  have e : (255 : Int32).toInt = 255 := rfl
  have e0 : (0 : Int32).toInt = 0 := rfl
  rw [Int32.lt_iff_toInt_lt, Int32.lt_iff_toInt_lt]
  omega
theorem own_rem (pp : Int32) {n : Nat} (hn : n < 2 ^ 30) (hp : 0 < n) : ∃ i, i < n ∧ (pp &&& 2147483647) % Int32.ofNat n = Int32.ofNat i := by
  have q := (c_and pp 2147483647 (by decide)).1
  have e : (Int32.ofNat n).toInt = n := Int32.toInt_ofNat_of_lt (by omega)
  have r := (c_iremV (pp &&& 2147483647) (Int32.ofNat n)).1 q (by omega)
  refine ⟨((pp &&& 2147483647) % Int32.ofNat n).toInt.toNat, by omega, Int32.toInt_inj.mp ?_⟩
  rw [Int32.toInt_ofNat_of_lt (by omega)]
  omega
theorem own_bset (cs : List Int32) (i : Nat) {v : Int32} (hv : ¬ v < 0 ∧ ¬ (255 : Int32) < v) (h : ∀ c ∈ cs, ¬ c < 0 ∧ ¬ (255 : Int32) < c) : ∀ c ∈ cs.set i v, ¬ c < 0 ∧ ¬ (255 : Int32) < c := fun c hc => by
  rcases List.mem_or_eq_of_mem_set hc with z | rfl
  · exact h c z
  · exact hv
theorem own_dbl {i : Nat} (h : i < 2 ^ 29) : Int32.ofNat i <<< ((1 : Int32) &&& 31) = Int32.ofNat (2 * i) := by
  have q := c_ishl (Int32.ofNat i) 1 1 (by decide)
  have e1 : (Int32.ofNat i).toInt = i := Int32.toInt_ofNat_of_lt (by omega)
  have e2 : (Int32.ofNat (2 * i)).toInt = ((2 * i : Nat) : Int) := Int32.toInt_ofNat_of_lt (by omega)
  have r := rng32 (Int32.ofNat i <<< ((1 : Int32) &&& 31))
  apply Int32.toInt_inj.mp
  rw [e2]
  rw [e1] at q
  omega
theorem own_b16 {cs : List Int32} (h : ∀ c ∈ cs, ¬ c < 0 ∧ ¬ (255 : Int32) < c) : ∀ c ∈ cs, ¬ c < 0 ∧ ¬ (65535 : Int32) < c := fun c hc => ⟨(h c hc).1, fun q => (h c hc).2 (Int32.lt_trans (by decide) q)⟩
theorem own_all {cs : List Int32} {n : Nat} (hn : cs.length = n) (h : ∀ i, i < n → ¬ (255 : Int32) < cs.getD i 0) : ∀ c ∈ cs, ¬ (255 : Int32) < c := fun c hc => by
  obtain ⟨i, hi, rfl⟩ := List.getElem_of_mem hc
  have q := h i (by omega)
  have e : cs.getD i 0 = cs[i] := by simp [List.getD_eq_getElem?_getD, hi]
  rw [e] at q; exact q
open StrChars StrChars.Road in
theorem own_wlen : ∀ cs : List Int32, (wideBytes cs).length = 2 * cs.length
  | [] => rfl
  | c :: cs => by simp [wideBytes, own_wlen cs]; omega
open StrChars StrChars.Road in
/-- the byte[] when the first i chars are laid, two bytes each -/
def own_wide (cs : List Int32) (n i : Nat) : List Value := wideBytes (cs.take i) ++ List.replicate (2 * (n - i)) (.int 0)
theorem own_wide0 (cs : List Int32) (n : Nat) : own_wide cs n 0 = List.replicate (2 * n) (.int 0) := by simp [own_wide, StrChars.Road.wideBytes]
theorem own_widen (cs : List Int32) {n : Nat} (hn : cs.length = n) : own_wide cs n n = StrChars.Road.wideBytes cs := by subst hn; simp [own_wide]
theorem own_widelen (cs : List Int32) {n i : Nat} (hn : cs.length = n) (h : i ≤ n) : (own_wide cs n i).length = 2 * n := by simp [own_wide, own_wlen]; omega
open StrChars StrChars.Road in
theorem own_wapp : ∀ (cs : List Int32) (c : Int32), wideBytes (cs ++ [c]) = wideBytes cs ++ [.int (lo8 c), .int (hi8 c)]
  | [], c => rfl
  | d :: cs, c => by simp [wideBytes, own_wapp cs c]
open StrChars StrChars.Road in
theorem own_wideset (cs : List Int32) {n i : Nat} (hn : cs.length = n) (h : i < n) : ((own_wide cs n i).set (2 * i) (.int (lo8 (cs.getD i 0)))).set (2 * i + 1) (.int (hi8 (cs.getD i 0))) = own_wide cs n (i + 1) := by
  have hl : i < cs.length := by omega
  have e1 : cs.take (i + 1) = cs.take i ++ [cs.getD i 0] := by
    rw [List.take_succ]; simp [List.getD_eq_getElem?_getD, hl]
  have e2 : (wideBytes (cs.take i)).length = 2 * i := by rw [own_wlen, List.length_take]; omega
  have e3 : List.replicate (2 * (n - i)) (Value.int 0) = .int 0 :: .int 0 :: List.replicate (2 * (n - (i + 1))) (.int 0) := by
    rw [show 2 * (n - i) = 2 * (n - (i + 1)) + 1 + 1 by omega]; rfl
  unfold own_wide
  rw [e1, own_wapp, e3, List.set_append_right _ _ (by omega), List.set_append_right _ _ (by omega), e2]
  simp
theorem own_neg {n : Nat} (h0 : 0 < n) (h : n < 2 ^ 29) : (XT.ushr (Int32.ofNat n - Int32.ofNat (2 * n)) 31).toInt8.toInt32 = 1 := by
  have e1 : (Int32.ofNat n).toInt = n := Int32.toInt_ofNat_of_lt (by omega)
  have e2 : (Int32.ofNat (2 * n)).toInt = ((2 * n : Nat) : Int) := Int32.toInt_ofNat_of_lt (by omega)
  have q := c_isub (Int32.ofNat n) (Int32.ofNat (2 * n))
  have r := rng32 (Int32.ofNat n - Int32.ofNat (2 * n))
  have u := c_iushr (Int32.ofNat n - Int32.ofNat (2 * n)) 31 31 (by decide) (by decide)
  have e3 : XT.ushr (Int32.ofNat n - Int32.ofNat (2 * n)) 31 = 1 := by
    apply Int32.toInt_inj.mp
    show ((Int32.ofNat n - Int32.ofNat (2 * n)).toUInt32 >>> ((31 : Int32) &&& 31).toUInt32).toInt32.toInt = 1
    rw [u]
    rw [e1, e2] at q
    omega
  rw [e3]; rfl
theorem own_mem {cs : List Int32} {i : Nat} (h : i < cs.length) : cs.getD i 0 ∈ cs := by
  have e : cs.getD i 0 = cs[i] := by simp [List.getD_eq_getElem?_getD, h]
  rw [e]; exact List.getElem_mem _
theorem own_nlt {i n : Nat} (hi : i < 2 ^ 30) (h : n ≤ i) : ¬ Int32.ofNat i < Int32.ofNat n := fun q => by
  rw [Int32.lt_iff_toInt_lt, Int32.toInt_ofNat_of_lt (by omega), Int32.toInt_ofNat_of_lt (by omega)] at q
  omega
theorem own_allg {bl : List Int32} (h : ∀ i, i < bl.length → ¬ bl.getD i 0 < (0 : Int32)) : ∀ b ∈ bl, ¬ b < (0 : Int32) := fun c hc => by
  obtain ⟨i, hi, rfl⟩ := List.getElem_of_mem hc
  have q := h i hi
  have e : bl.getD i 0 = bl[i] := by simp [List.getD_eq_getElem?_getD, hi]
  rw [e] at q; exact q
theorem own_inj {a b : Nat} (ha : a < 2 ^ 30) (hb : b < 2 ^ 30) (h : Int32.ofNat a = Int32.ofNat b) : a = b := by
  have q := congrArg Int32.toInt h
  rw [Int32.toInt_ofNat_of_lt (by omega), Int32.toInt_ofNat_of_lt (by omega)] at q
  omega
open StrChars StrChars.Road in
theorem own_wide_lo (cs : List Int32) {i : Nat} (h : i < cs.length) : (wideBytes cs).getD (2 * i) (.int 0) = .int (lo8 (cs.getD i 0)) := wide_lo _ cs i h
open StrChars StrChars.Road in
theorem own_wide_hi (cs : List Int32) {i : Nat} (h : i < cs.length) : (wideBytes cs).getD (2 * i + 1) (.int 0) = .int (hi8 (cs.getD i 0)) := wide_hi _ cs i h
/-! facts of the start, out of the sheet's words -/
theorem own_len {Z : State} {args : Array Value} {t : Term} {a : Addr} {cl : Cell} {ty : FieldType} {N : Int32} (ev : t.eval args Z none [] Z = some (.ref a)) (A : Arr Z Z.heap a cl ty) (h : (Jvm.Cond.eq (.length t) (.int N)).value args Z none Z [] = some true) : cl.slots.size < 2 ^ 31 ∧ cl.slots.size.toInt32 = N := by
  have e := eqv_i (Term.int_eval N) h
  have ha : Z.arrayAt? a = some cl := A.fin (Vm.Alike.refl _)
  by_cases q : cl.slots.size < 2 ^ 31
  · rw [len_f ev ha q] at e
    exact ⟨q, Value.int.inj (Option.some.inj e)⟩
  · simp [Term.eval, ev, ha] at e
    exact absurd e.1 q
theorem own_el {Z : State} {args : Array Value} {t : Term} {a : Addr} {cl : Cell} {j b : Int32} (ev : t.eval args Z none [] Z = some (.ref a)) (hc : Z.heap[a]? = some cl) (h : (Jvm.Cond.eq (.elem t (.int j)) (.int b)).value args Z none Z [] = some true) : cl.slots[j.toNatClampNeg]? = some (.int b) := (elem_in (eqv_i (Term.int_eval b) h) ev (Term.int_eval j) hc).2
theorem own_eqR {Z : State} {args : Array Value} {X F : Term} {y : Addr} (hF : F.eval args Z none [] Z = some (.ref y)) (h : (Jvm.Cond.eq X F).value args Z none Z [] = some true) : X.eval args Z none [] Z = some (.ref y) := by
  obtain ⟨x, y', e1, e2, k1, k2⟩ := cmp_v (Or.inl h)
  cases hF.symm.trans e2
  have hx : x.isRef = true := by cases x <;> simp_all [Kin, Value.isRef]
  have q := gotT (eq_R e1 hF hx rfl) h
  rw [e1, q]
theorem own_elR {Z : State} {args : Array Value} {t F : Term} {a y : Addr} {cl : Cell} {j : Int32} (ev : t.eval args Z none [] Z = some (.ref a)) (hc : Z.heap[a]? = some cl) (hF : F.eval args Z none [] Z = some (.ref y)) (h : (Jvm.Cond.eq (.elem t (.int j)) F).value args Z none Z [] = some true) : cl.slots[j.toNatClampNeg]? = some (.ref y) := (elem_in (own_eqR hF h) ev (Term.int_eval j) hc).2
theorem own_strZ {Z : State} {args : Array Value} {t : Term} {q : Addr} {N : Int32} {cs : List Int32} (hf : Fit Z) (eq : t.eval args Z none [] Z = some (.ref q)) (cx : (Jvm.Cond.exactly t "java/lang/String").value args Z none Z [] = some true) (cc : (Jvm.Cond.eq (.field t "java/lang/String" "coder" "B") (.int 0)).value args Z none Z [] = some true) (ca : (Jvm.Cond.arrayOf (.field t "java/lang/String" "value" "[B") .byte).value args Z none Z [] = some true) (cl : (Jvm.Cond.eq (.length (.field t "java/lang/String" "value" "[B")) (.int N)).value args Z none Z [] = some true)
    (hN : ¬ N < 0) (hl : N.toNatClampNeg = cs.length) (hN' : N = Int32.ofNat cs.length) (hb : ∀ c ∈ cs, ¬ c < 0 ∧ ¬ (255 : Int32) < c) (H : ∀ (b : Addr) (cell : Cell), (Term.field t "java/lang/String" "value" "[B").eval args Z none [] Z = some (.ref b) → Z.heap[b]? = some cell → HasL cell 0 (cs.map fun c => Value.int (StrChars.lo8 c))) : OStr Z Z.heap q cs := by
  obtain ⟨b, eb⟩ := arr_v ca
  obtain ⟨cell, A⟩ := Arr.start eb ca
  obtain ⟨l1, l2⟩ := own_len eb A cl
  have ec := eqv_i (Term.int_eval 0) cc
  refine ⟨Exa.start eq cx, fun c hc => ⟨(hb c hc).1, fun z => (hb c hc).2 (Int32.lt_trans (by decide) z)⟩, b, cell.cls, 0, N, _, Fld.start ((fld_at eq).symm.trans eb), Fld.start ((fld_at eq).symm.trans ec), Arv.start hf A l1 l2 hN (by rw [List.length_map]; exact hl) (H b cell eb A.1), Or.inl ⟨rfl, hN', rfl, fun c hc => (hb c hc).2⟩⟩
theorem own_c0 {P : Jvm.Cond → Prop} : ∀ a ∈ ([] : List Jvm.Cond), P a := fun _ q => nomatch q
theorem own_cc {P : Jvm.Cond → Prop} {c : Jvm.Cond} {L : List Jvm.Cond} (q : P c) (r : ∀ a ∈ L, P a) : ∀ a ∈ c :: L, P a := fun a ha => by
  rcases List.mem_cons.mp ha with rfl | z
  · exact q
  · exact r a z
def own_text (k : Nat) : String := match tables_1[k]? with | some (.stringLink _ _ t) => t | _ => ""
theorem own_str {Z : State} {a0 : Array Value} (hw : ∀ d ∈ tables_1, d.before a0 Z = true) : ∀ a ∈ Bundle.stringAtoms, a.before a0 Z = true :=
  own_cc (hw _ (List.mem_of_getElem? (i := 19) rfl)) (own_cc (hw _ (List.mem_of_getElem? (i := 18) rfl)) (own_cc (hw _ (List.mem_of_getElem? (i := 36) rfl)) (own_cc (hw _ (List.mem_of_getElem? (i := 65) rfl)) (own_cc (hw _ (List.mem_of_getElem? (i := 63) rfl)) (own_cc (hw _ (List.mem_of_getElem? (i := 141) rfl)) (own_cc (hw _ (List.mem_of_getElem? (i := 142) rfl)) (own_c0)))))))
theorem dS0_0 : decode jdk_52_method_21_code 0 = .ok (.iconst 0, 1) := by decide +kernel
theorem dS0_1 : decode jdk_52_method_21_code 1 = .ok (.istore 5, 2) := by decide +kernel
theorem dS0_3 : decode jdk_52_method_21_code 3 = .ok (.iload 5, 2) := by decide +kernel
theorem dS0_5 : decode jdk_52_method_21_code 5 = .ok (.iload 4, 2) := by decide +kernel
theorem dS0_7 : decode jdk_52_method_21_code 7 = .ok (.if_icmp .ge 37, 3) := by decide +kernel
theorem dS0_10 : decode jdk_52_method_21_code 10 = .ok (.aload_n 0, 1) := by decide +kernel
theorem dS0_11 : decode jdk_52_method_21_code 11 = .ok (.iload_n 1, 1) := by decide +kernel
theorem dS0_12 : decode jdk_52_method_21_code 12 = .ok (.caload, 1) := by decide +kernel
theorem dS0_13 : decode jdk_52_method_21_code 13 = .ok (.istore 6, 2) := by decide +kernel
theorem dS0_15 : decode jdk_52_method_21_code 15 = .ok (.iload 6, 2) := by decide +kernel
theorem dS0_17 : decode jdk_52_method_21_code 17 = .ok (.sipush 255, 3) := by decide +kernel
theorem dS0_20 : decode jdk_52_method_21_code 20 = .ok (.if_icmp .le 6, 3) := by decide +kernel
theorem dS0_23 : decode jdk_52_method_21_code 23 = .ok (.iload 5, 2) := by decide +kernel
theorem dS0_25 : decode jdk_52_method_21_code 25 = .ok (.ireturn, 1) := by decide +kernel
theorem dS0_26 : decode jdk_52_method_21_code 26 = .ok (.aload_n 2, 1) := by decide +kernel
theorem dS0_27 : decode jdk_52_method_21_code 27 = .ok (.iload_n 3, 1) := by decide +kernel
theorem dS0_28 : decode jdk_52_method_21_code 28 = .ok (.iload 6, 2) := by decide +kernel
theorem dS0_30 : decode jdk_52_method_21_code 30 = .ok (.i2b, 1) := by decide +kernel
theorem dS0_31 : decode jdk_52_method_21_code 31 = .ok (.bastore, 1) := by decide +kernel
theorem dS0_32 : decode jdk_52_method_21_code 32 = .ok (.iinc 1 1, 3) := by decide +kernel
theorem dS0_35 : decode jdk_52_method_21_code 35 = .ok (.iinc 3 1, 3) := by decide +kernel
theorem dS0_38 : decode jdk_52_method_21_code 38 = .ok (.iinc 5 1, 3) := by decide +kernel
theorem dS0_41 : decode jdk_52_method_21_code 41 = .ok (.goto (-38), 3) := by decide +kernel
theorem dS0_44 : decode jdk_52_method_21_code 44 = .ok (.iload 4, 2) := by decide +kernel
theorem dS0_46 : decode jdk_52_method_21_code 46 = .ok (.ireturn, 1) := by decide +kernel
theorem dS1_0 : decode jdk_52_method_16_code 0 = .ok (.iload_n 2, 1) := by decide +kernel
theorem dS1_1 : decode jdk_52_method_16_code 1 = .ok (.newarray .byte, 2) := by decide +kernel
theorem dS1_3 : decode jdk_52_method_16_code 3 = .ok (.astore_n 3, 1) := by decide +kernel
theorem dS1_4 : decode jdk_52_method_16_code 4 = .ok (.aload_n 0, 1) := by decide +kernel
theorem dS1_5 : decode jdk_52_method_16_code 5 = .ok (.iload_n 1, 1) := by decide +kernel
theorem dS1_6 : decode jdk_52_method_16_code 6 = .ok (.aload_n 3, 1) := by decide +kernel
theorem dS1_7 : decode jdk_52_method_16_code 7 = .ok (.iconst 0, 1) := by decide +kernel
theorem dS1_8 : decode jdk_52_method_16_code 8 = .ok (.iload_n 2, 1) := by decide +kernel
theorem dS1_9 : decode jdk_52_method_16_code 9 = .ok (.invokestatic 115, 3) := by decide +kernel
theorem dS1_12 : decode jdk_52_method_16_code 12 = .ok (.istore 4, 2) := by decide +kernel
theorem dS1_14 : decode jdk_52_method_16_code 14 = .ok (.iload 4, 2) := by decide +kernel
theorem dS1_16 : decode jdk_52_method_16_code 16 = .ok (.iload_n 2, 1) := by decide +kernel
theorem dS1_17 : decode jdk_52_method_16_code 17 = .ok (.if_icmp .eq 40, 3) := by decide +kernel
theorem dS1_20 : decode jdk_52_method_16_code 20 = .ok (.aload_n 0, 1) := by decide +kernel
theorem dS1_21 : decode jdk_52_method_16_code 21 = .ok (.iload_n 1, 1) := by decide +kernel
theorem dS1_22 : decode jdk_52_method_16_code 22 = .ok (.iload_n 2, 1) := by decide +kernel
theorem dS1_23 : decode jdk_52_method_16_code 23 = .ok (.invokestatic 119, 3) := by decide +kernel
theorem dS1_26 : decode jdk_52_method_16_code 26 = .ok (.astore 5, 2) := by decide +kernel
theorem dS1_28 : decode jdk_52_method_16_code 28 = .ok (.aload 5, 2) := by decide +kernel
theorem dS1_30 : decode jdk_52_method_16_code 30 = .ok (.iload 4, 2) := by decide +kernel
theorem dS1_32 : decode jdk_52_method_16_code 32 = .ok (.invokestatic 71, 3) := by decide +kernel
theorem dS1_35 : decode jdk_52_method_16_code 35 = .ok (.sipush 255, 3) := by decide +kernel
theorem dS1_38 : decode jdk_52_method_16_code 38 = .ok (.if_icmp .gt 16, 3) := by decide +kernel
theorem dS1_41 : decode jdk_52_method_16_code 41 = .ok (.aload 5, 2) := by decide +kernel
theorem dS1_43 : decode jdk_52_method_16_code 43 = .ok (.iconst 0, 1) := by decide +kernel
theorem dS1_44 : decode jdk_52_method_16_code 44 = .ok (.aload_n 3, 1) := by decide +kernel
theorem dS1_45 : decode jdk_52_method_16_code 45 = .ok (.iconst 0, 1) := by decide +kernel
theorem dS1_46 : decode jdk_52_method_16_code 46 = .ok (.iload_n 2, 1) := by decide +kernel
theorem dS1_47 : decode jdk_52_method_16_code 47 = .ok (.invokestatic 123, 3) := by decide +kernel
theorem dS1_50 : decode jdk_52_method_16_code 50 = .ok (.iload_n 2, 1) := by decide +kernel
theorem dS1_51 : decode jdk_52_method_16_code 51 = .ok (.if_icmp .eq 6, 3) := by decide +kernel
theorem dS1_54 : decode jdk_52_method_16_code 54 = .ok (.aload 5, 2) := by decide +kernel
theorem dS1_56 : decode jdk_52_method_16_code 56 = .ok (.areturn, 1) := by decide +kernel
theorem dS1_57 : decode jdk_52_method_16_code 57 = .ok (.aload_n 3, 1) := by decide +kernel
theorem dS1_58 : decode jdk_52_method_16_code 58 = .ok (.areturn, 1) := by decide +kernel
theorem dS2_0 : decode jdk_52_method_15_code 0 = .ok (.iload_n 1, 1) := by decide +kernel
theorem dS2_1 : decode jdk_52_method_15_code 1 = .ok (.aload_n 0, 1) := by decide +kernel
theorem dS2_2 : decode jdk_52_method_15_code 2 = .ok (.arraylength, 1) := by decide +kernel
theorem dS2_3 : decode jdk_52_method_15_code 3 = .ok (.isub, 1) := by decide +kernel
theorem dS2_4 : decode jdk_52_method_15_code 4 = .ok (.bipush 31, 2) := by decide +kernel
theorem dS2_6 : decode jdk_52_method_15_code 6 = .ok (.iushr, 1) := by decide +kernel
theorem dS2_7 : decode jdk_52_method_15_code 7 = .ok (.i2b, 1) := by decide +kernel
theorem dS2_8 : decode jdk_52_method_15_code 8 = .ok (.ireturn, 1) := by decide +kernel
theorem dS3_0 : decode jdk_42_method_149_code 0 = .ok (.aload_n 0, 1) := by decide +kernel
theorem dS3_1 : decode jdk_42_method_149_code 1 = .ok (.invokespecial 1, 3) := by decide +kernel
theorem dS3_4 : decode jdk_42_method_149_code 4 = .ok (.iload_n 3, 1) := by decide +kernel
theorem dS3_5 : decode jdk_42_method_149_code 5 = .ok (.ifCond .ne 22, 3) := by decide +kernel
theorem dS3_8 : decode jdk_42_method_149_code 8 = .ok (.aload_n 0, 1) := by decide +kernel
theorem dS3_9 : decode jdk_42_method_149_code 9 = .ok (.ldc 7, 2) := by decide +kernel
theorem dS3_11 : decode jdk_42_method_149_code 11 = .ok (.getfield 9, 3) := by decide +kernel
theorem dS3_14 : decode jdk_42_method_149_code 14 = .ok (.putfield 9, 3) := by decide +kernel
theorem dS3_17 : decode jdk_42_method_149_code 17 = .ok (.aload_n 0, 1) := by decide +kernel
theorem dS3_18 : decode jdk_42_method_149_code 18 = .ok (.ldc 7, 2) := by decide +kernel
theorem dS3_20 : decode jdk_42_method_149_code 20 = .ok (.getfield 15, 3) := by decide +kernel
theorem dS3_23 : decode jdk_42_method_149_code 23 = .ok (.putfield 15, 3) := by decide +kernel
theorem dS3_26 : decode jdk_42_method_149_code 26 = .ok (.return_, 1) := by decide +kernel
theorem dS3_27 : decode jdk_42_method_149_code 27 = .ok (.getstatic 38, 3) := by decide +kernel
theorem dS3_30 : decode jdk_42_method_149_code 30 = .ok (.ifCond .eq 28, 3) := by decide +kernel
theorem dS3_33 : decode jdk_42_method_149_code 33 = .ok (.aload_n 1, 1) := by decide +kernel
theorem dS3_34 : decode jdk_42_method_149_code 34 = .ok (.iload_n 2, 1) := by decide +kernel
theorem dS3_35 : decode jdk_42_method_149_code 35 = .ok (.iload_n 3, 1) := by decide +kernel
theorem dS3_36 : decode jdk_42_method_149_code 36 = .ok (.invokestatic 177, 3) := by decide +kernel
theorem dS3_39 : decode jdk_42_method_149_code 39 = .ok (.astore 5, 2) := by decide +kernel
theorem dS3_41 : decode jdk_42_method_149_code 41 = .ok (.aload_n 0, 1) := by decide +kernel
theorem dS3_42 : decode jdk_42_method_149_code 42 = .ok (.aload 5, 2) := by decide +kernel
theorem dS3_44 : decode jdk_42_method_149_code 44 = .ok (.iload_n 3, 1) := by decide +kernel
theorem dS3_45 : decode jdk_42_method_149_code 45 = .ok (.invokestatic 47, 3) := by decide +kernel
theorem dS3_48 : decode jdk_42_method_149_code 48 = .ok (.putfield 15, 3) := by decide +kernel
theorem dS3_51 : decode jdk_42_method_149_code 51 = .ok (.aload_n 0, 1) := by decide +kernel
theorem dS3_52 : decode jdk_42_method_149_code 52 = .ok (.aload 5, 2) := by decide +kernel
theorem dS3_54 : decode jdk_42_method_149_code 54 = .ok (.putfield 9, 3) := by decide +kernel
theorem dS3_57 : decode jdk_42_method_149_code 57 = .ok (.return_, 1) := by decide +kernel
theorem dS3_58 : decode jdk_42_method_149_code 58 = .ok (.aload_n 0, 1) := by decide +kernel
theorem dS3_59 : decode jdk_42_method_149_code 59 = .ok (.iconst 1, 1) := by decide +kernel
theorem dS3_60 : decode jdk_42_method_149_code 60 = .ok (.putfield 15, 3) := by decide +kernel
theorem dS3_63 : decode jdk_42_method_149_code 63 = .ok (.aload_n 0, 1) := by decide +kernel
theorem dS3_64 : decode jdk_42_method_149_code 64 = .ok (.aload_n 1, 1) := by decide +kernel
theorem dS3_65 : decode jdk_42_method_149_code 65 = .ok (.iload_n 2, 1) := by decide +kernel
theorem dS3_66 : decode jdk_42_method_149_code 66 = .ok (.iload_n 3, 1) := by decide +kernel
theorem dS3_67 : decode jdk_42_method_149_code 67 = .ok (.invokestatic 180, 3) := by decide +kernel
theorem dS3_70 : decode jdk_42_method_149_code 70 = .ok (.putfield 9, 3) := by decide +kernel
theorem dS3_73 : decode jdk_42_method_149_code 73 = .ok (.return_, 1) := by decide +kernel
theorem dS4_0 : decode jdk_42_method_3_code 0 = .ok (.aload_n 0, 1) := by decide +kernel
theorem dS4_1 : decode jdk_42_method_3_code 1 = .ok (.aload_n 1, 1) := by decide +kernel
theorem dS4_2 : decode jdk_42_method_3_code 2 = .ok (.iconst 0, 1) := by decide +kernel
theorem dS4_3 : decode jdk_42_method_3_code 3 = .ok (.aload_n 1, 1) := by decide +kernel
theorem dS4_4 : decode jdk_42_method_3_code 4 = .ok (.arraylength, 1) := by decide +kernel
theorem dS4_5 : decode jdk_42_method_3_code 5 = .ok (.aconst_null, 1) := by decide +kernel
theorem dS4_6 : decode jdk_42_method_3_code 6 = .ok (.invokespecial 27, 3) := by decide +kernel
theorem dS4_9 : decode jdk_42_method_3_code 9 = .ok (.return_, 1) := by decide +kernel
theorem pd___CI_BII_I : parseMethodDescriptor "([CI[BII)I" = some ⟨[(.array .char), .int, (.array .byte), .int, .int], (some .int)⟩ := by decide +kernel
theorem pd___CII__B : parseMethodDescriptor "([CII)[B" = some ⟨[(.array .char), .int, .int], (some (.array .byte))⟩ := by decide +kernel
theorem pd___BI_B : parseMethodDescriptor "([BI)B" = some ⟨[(.array .byte), .int], (some .byte)⟩ := by decide +kernel
theorem pd___CIILjava_lang_Void__V : parseMethodDescriptor "([CIILjava/lang/Void;)V" = some ⟨[(.array .char), .int, .int, (.object "java/lang/Void")], none⟩ := by decide +kernel
theorem pd___C_V : parseMethodDescriptor "([C)V" = some ⟨[(.array .char)], none⟩ := by decide +kernel
theorem pn_java_lang_StringUTF16 : plainName "java/lang/StringUTF16" = true := by first | (simp [plainName, overriddenIn]; done) | decide +kernel
set_option maxRecDepth 65536 in
set_option maxHeartbeats 4000000 in
theorem con_cmp5 (l : Launch) (Z : State) (a0 : Array Value) (hw : ∀ d ∈ tables_1, d.before a0 Z = true) (hEL : EW Z a0 consts_1) (b d : Addr) (kC kB : ClassId) (cs : List Int32) (dv : Value) (n : Nat) (h0 : Heap) (hn : cs.length = n) (hcap : n ≤ 3) (K : Arv Z h0 b kC .char (Int32.ofNat n) (cs.map Value.int) dv) (D : Arv Z h0 d kB .byte (Int32.ofNat n) (List.replicate n (.int 0)) (.int 0)) (hne : b ≠ d) :
    Ocon l Z consts_1 (⟨"java/lang/StringUTF16", "compress", "([CI[BII)I"⟩ : MethodName) jdk_52_method_21_code 7 (some .int) [] ({ frames := 0, cells := 0, slots := 0, locals := 0 } : Room) #[(.ref b), (.int (0 : Int32)), (.ref d), (.int (0 : Int32)), (.int (Int32.ofNat n))] h0 [d] ((List.range 3).map fun i => (⟨d, i⟩ : Loc)) (fun v h _ => ∃ r, r ≤ n ∧ v = some (.int (Int32.ofNat r)) ∧ Keep h0 h [d] ∧ (∀ i, i < r → ¬ (255 : Int32) < cs.getD i 0) ∧ (r < n → (255 : Int32) < cs.getD r 0) ∧ Arv Z h d kB .byte (Int32.ofNat n) (own_cmp cs n r) (.int 0)) := by
  refine own_con (a0 := a0) hEL (plainFor_of_name pn_java_lang_StringUTF16) ?_
  intro p e s m below meth c T hs W0
  have loop : ∀ (kk i : Nat) (T : State) (h : Heap) (s6 : Slot), i + kk = n → (∀ i', i' < i → ¬ (255 : Int32) < cs.getD i' 0) → One s6 → Keep h0 h [d] → Arv Z h b kC .char (Int32.ofNat n) (cs.map Value.int) dv → Arv Z h d kB .byte (Int32.ofNat n) (own_cmp cs n i) (.int 0) → Owk p l e ({ frames := 0, cells := 0, slots := 0, locals := 0 } : Room) s m #[(.ref b), (.int (0 : Int32)), (.ref d), (.int (0 : Int32)), (.int (Int32.ofNat n))] below meth c Z a0 consts_1 ((List.range 3).map fun i => (⟨d, i⟩ : Loc)) "java/lang/StringUTF16" "compress" jdk_52_method_21_code 7 (some .int) T h [d] 0 0 → Ogo p l e ({ frames := 0, cells := 0, slots := 0, locals := 0 } : Room) s m #[(.ref b), (.int (0 : Int32)), (.ref d), (.int (0 : Int32)), (.int (Int32.ofNat n))] below meth c Z a0 consts_1 ((List.range 3).map fun i => (⟨d, i⟩ : Loc)) "java/lang/StringUTF16" "compress" jdk_52_method_21_code 7 (some .int) T (mkF m 3 #[.val (.ref b), .val (.int (Int32.ofNat i)), .val (.ref d), .val (.int (Int32.ofNat i)), .val (.int (Int32.ofNat n)), .val (.int (Int32.ofNat i)), s6] []) (fun v h _ => ∃ r, r ≤ n ∧ v = some (.int (Int32.ofNat r)) ∧ Keep h0 h [d] ∧ (∀ i, i < r → ¬ (255 : Int32) < cs.getD i 0) ∧ (r < n → (255 : Int32) < cs.getD r 0) ∧ Arv Z h d kB .byte (Int32.ofNat n) (own_cmp cs n r) (.int 0)) := by
    intro kk
    induction kk with
    | zero =>
      intro i T h s6 hi hb h6 hK hV hD W0
      obtain rfl : n = i := by omega
      refine g_iload W0 dS0_3 (pc' := 5) rfl rfl ?_
      refine g_iload W0 dS0_5 (pc' := 7) rfl rfl ?_
      refine g_icY W0 dS0_7 (pc' := 44) (flt Int32.lt_irrefl).2.1 (by decide) (by decide) ?_
      refine g_iload W0 dS0_44 (pc' := 46) rfl rfl ?_
      exact g_iret W0 dS0_46 rfl (Or.inl rfl) rfl ⟨n, Nat.le_refl _, rfl, hK, hb, fun q => absurd q (Nat.lt_irrefl _), hD⟩
    | succ kk ih =>
      intro i T h s6 hi hb h6 hK hV hD W0
      have hin : i < n := by omega
      have hlt := own_lt (by omega) hin
      have hcl : (Int32.ofNat n).toNatClampNeg = n := own_clamp (by omega)
      refine g_iload W0 dS0_3 (pc' := 5) rfl rfl ?_
      refine g_iload W0 dS0_5 (pc' := 7) rfl rfl ?_
      refine g_icN W0 dS0_7 (pc' := 10) (tlt hlt).2.1 rfl ?_
      refine g_aloadN W0 dS0_10 (pc' := 11) rfl rfl rfl ?_
      refine g_iloadN W0 dS0_11 (pc' := 12) rfl rfl ?_
      refine g_caload W0 dS0_12 (pc' := 13) rfl hV (i := i) rfl (by rw [hcl]; exact hin) (v := (.int (cs.getD i 0))) (own_getI cs dv (by omega)) ?_
      refine g_istore W0 dS0_13 (pc' := 15) (ls' := #[.val (.ref b), .val (.int (Int32.ofNat i)), .val (.ref d), .val (.int (Int32.ofNat i)), .val (.int (Int32.ofNat n)), .val (.int (Int32.ofNat i)), .val (.int (cs.getD i 0))]) rfl (XS.store1 (o := s6) rfl h6 rfl) ?_
      refine g_iload W0 dS0_15 (pc' := 17) rfl rfl ?_
      refine g_sipush W0 dS0_17 (pc' := 20) rfl (v := 255) rfl ?_
      by_cases c1 : (255 : Int32) < (cs.getD i 0)
      · skip
        refine g_icN W0 dS0_20 (pc' := 23) (tlt c1).2.2.2 rfl ?_
        refine g_iload W0 dS0_23 (pc' := 25) rfl rfl ?_
        exact g_iret W0 dS0_25 rfl (Or.inl rfl) rfl ⟨i, Nat.le_of_lt hin, rfl, hK, hb, fun _ => by assumption, hD⟩
      · skip
        refine g_icY W0 dS0_20 (pc' := 26) (flt c1).2.2.2 (by decide) (by decide) ?_
        refine g_aloadN W0 dS0_26 (pc' := 27) rfl rfl rfl ?_
        refine g_iloadN W0 dS0_27 (pc' := 28) rfl rfl ?_
        refine g_iload W0 dS0_28 (pc' := 30) rfl rfl ?_
        refine g_i2b W0 dS0_30 (pc' := 31) rfl ?_
        refine g_bastore W0 dS0_31 (pc' := 32) rfl hD (i := i) rfl (by rw [hcl]; exact hin) (by rw [own_cmplen cs hn (by omega)]; exact hin) (own_lo8 _) (own_cmpset cs hn hin) (by simp) (Or.inl (by simp; omega)) ?_
        intro T2 h3 w4 A5 W6
        refine g_iinc W6 dS0_32 (pc' := 35) (v := Int32.ofNat (i + 1)) (ls' := #[.val (.ref b), .val (.int (Int32.ofNat (i + 1))), .val (.ref d), .val (.int (Int32.ofNat i)), .val (.int (Int32.ofNat n)), .val (.int (Int32.ofNat i)), .val (.int (cs.getD i 0))]) rfl rfl (own_succ i) rfl ?_
        refine g_iinc W6 dS0_35 (pc' := 38) (v := Int32.ofNat (i + 1)) (ls' := #[.val (.ref b), .val (.int (Int32.ofNat (i + 1))), .val (.ref d), .val (.int (Int32.ofNat (i + 1))), .val (.int (Int32.ofNat n)), .val (.int (Int32.ofNat i)), .val (.int (cs.getD i 0))]) rfl rfl (own_succ i) rfl ?_
        refine g_iinc W6 dS0_38 (pc' := 41) (v := Int32.ofNat (i + 1)) (ls' := #[.val (.ref b), .val (.int (Int32.ofNat (i + 1))), .val (.ref d), .val (.int (Int32.ofNat (i + 1))), .val (.int (Int32.ofNat n)), .val (.int (Int32.ofNat (i + 1))), .val (.int (cs.getD i 0))]) rfl rfl (own_succ i) rfl ?_
        refine g_goto W6 dS0_41 (pc' := 3) (by decide) (by decide) ?_
        refine ih (i + 1) T2 h3 _ (by omega) (fun i' hi' => ?_) (One.val rfl) (hK.wr w4 (Or.inl (by simp))) (hV.other w4 hne) A5 W6
        by_cases q : i' = i
        · subst q; exact c1
        · exact hb i' (by omega)
  have ef : entryFrame m #[(.ref b), (.int (0 : Int32)), (.ref d), (.int (0 : Int32)), (.int (Int32.ofNat n))] 7 = mkF m 0 #[.val (.ref b), .val (.int (0 : Int32)), .val (.ref d), .val (.int (0 : Int32)), .val (.int (Int32.ofNat n)), .unset, .unset] [] := own_entry m [(.ref b), (.int (0 : Int32)), (.ref d), (.int (0 : Int32)), (.int (Int32.ofNat n))] 7 (by simp [Value.category]) rfl
  rw [ef]
  refine g_iconst W0 dS0_0 (pc' := 1) rfl (v := 0) rfl ?_
  refine g_istore W0 dS0_1 (pc' := 3) rfl (ls' := #[.val (.ref b), .val (.int (0 : Int32)), .val (.ref d), .val (.int (0 : Int32)), .val (.int (Int32.ofNat n)), .val (.int (0 : Int32)), .unset]) rfl ?_
  exact loop n 0 T h0 .unset (by omega) (fun i' hi' => absurd hi' (Nat.not_lt_zero _)) One.u (Keep.refl _ _) K (by rw [own_cmp0]; exact D) W0
theorem dU0_0 : decode jdk_52_method_14_code 0 = .ok (.iload_n 2, 1) := by decide +kernel
theorem dU0_1 : decode jdk_52_method_14_code 1 = .ok (.invokestatic 107, 3) := by decide +kernel
theorem dU0_4 : decode jdk_52_method_14_code 4 = .ok (.astore_n 3, 1) := by decide +kernel
theorem dU0_5 : decode jdk_52_method_14_code 5 = .ok (.iconst 0, 1) := by decide +kernel
theorem dU0_6 : decode jdk_52_method_14_code 6 = .ok (.istore 4, 2) := by decide +kernel
theorem dU0_8 : decode jdk_52_method_14_code 8 = .ok (.iload 4, 2) := by decide +kernel
theorem dU0_10 : decode jdk_52_method_14_code 10 = .ok (.iload_n 2, 1) := by decide +kernel
theorem dU0_11 : decode jdk_52_method_14_code 11 = .ok (.if_icmp .ge 21, 3) := by decide +kernel
theorem dU0_14 : decode jdk_52_method_14_code 14 = .ok (.aload_n 3, 1) := by decide +kernel
theorem dU0_15 : decode jdk_52_method_14_code 15 = .ok (.iload 4, 2) := by decide +kernel
theorem dU0_17 : decode jdk_52_method_14_code 17 = .ok (.aload_n 0, 1) := by decide +kernel
theorem dU0_18 : decode jdk_52_method_14_code 18 = .ok (.iload_n 1, 1) := by decide +kernel
theorem dU0_19 : decode jdk_52_method_14_code 19 = .ok (.caload, 1) := by decide +kernel
theorem dU0_20 : decode jdk_52_method_14_code 20 = .ok (.invokestatic 111, 3) := by decide +kernel
theorem dU0_23 : decode jdk_52_method_14_code 23 = .ok (.iinc 1 1, 3) := by decide +kernel
theorem dU0_26 : decode jdk_52_method_14_code 26 = .ok (.iinc 4 1, 3) := by decide +kernel
theorem dU0_29 : decode jdk_52_method_14_code 29 = .ok (.goto (-21), 3) := by decide +kernel
theorem dU0_32 : decode jdk_52_method_14_code 32 = .ok (.aload_n 3, 1) := by decide +kernel
theorem dU0_33 : decode jdk_52_method_14_code 33 = .ok (.areturn, 1) := by decide +kernel
theorem dU1_0 : decode jdk_52_method_2_code 0 = .ok (.iload_n 0, 1) := by decide +kernel
theorem dU1_1 : decode jdk_52_method_2_code 1 = .ok (.invokestatic 11, 3) := by decide +kernel
theorem dU1_4 : decode jdk_52_method_2_code 4 = .ok (.newarray .byte, 2) := by decide +kernel
theorem dU1_6 : decode jdk_52_method_2_code 6 = .ok (.areturn, 1) := by decide +kernel
theorem dU2_0 : decode jdk_52_method_3_code 0 = .ok (.iload_n 0, 1) := by decide +kernel
theorem dU2_1 : decode jdk_52_method_3_code 1 = .ok (.ifCond .ge 11, 3) := by decide +kernel
theorem dU2_4 : decode jdk_52_method_3_code 4 = .ok (.new 17, 3) := by decide +kernel
theorem dU2_7 : decode jdk_52_method_3_code 7 = .ok (.dup, 1) := by decide +kernel
theorem dU2_8 : decode jdk_52_method_3_code 8 = .ok (.invokespecial 19, 3) := by decide +kernel
theorem dU2_11 : decode jdk_52_method_3_code 11 = .ok (.athrow, 1) := by decide +kernel
theorem dU2_12 : decode jdk_52_method_3_code 12 = .ok (.iload_n 0, 1) := by decide +kernel
theorem dU2_13 : decode jdk_52_method_3_code 13 = .ok (.ldc 20, 2) := by decide +kernel
theorem dU2_15 : decode jdk_52_method_3_code 15 = .ok (.if_icmp .lt 40, 3) := by decide +kernel
theorem dU2_18 : decode jdk_52_method_3_code 18 = .ok (.new 21, 3) := by decide +kernel
theorem dU2_21 : decode jdk_52_method_3_code 21 = .ok (.dup, 1) := by decide +kernel
theorem dU2_22 : decode jdk_52_method_3_code 22 = .ok (.new 23, 3) := by decide +kernel
theorem dU2_25 : decode jdk_52_method_3_code 25 = .ok (.dup, 1) := by decide +kernel
theorem dU2_26 : decode jdk_52_method_3_code 26 = .ok (.invokespecial 25, 3) := by decide +kernel
theorem dU2_29 : decode jdk_52_method_3_code 29 = .ok (.ldc 26, 2) := by decide +kernel
theorem dU2_31 : decode jdk_52_method_3_code 31 = .ok (.invokevirtual 28, 3) := by decide +kernel
theorem dU2_34 : decode jdk_52_method_3_code 34 = .ok (.iload_n 0, 1) := by decide +kernel
theorem dU2_35 : decode jdk_52_method_3_code 35 = .ok (.invokevirtual 32, 3) := by decide +kernel
theorem dU2_38 : decode jdk_52_method_3_code 38 = .ok (.ldc 35, 2) := by decide +kernel
theorem dU2_40 : decode jdk_52_method_3_code 40 = .ok (.invokevirtual 28, 3) := by decide +kernel
theorem dU2_43 : decode jdk_52_method_3_code 43 = .ok (.ldc 20, 2) := by decide +kernel
theorem dU2_45 : decode jdk_52_method_3_code 45 = .ok (.invokevirtual 32, 3) := by decide +kernel
theorem dU2_48 : decode jdk_52_method_3_code 48 = .ok (.invokevirtual 37, 3) := by decide +kernel
theorem dU2_51 : decode jdk_52_method_3_code 51 = .ok (.invokespecial 41, 3) := by decide +kernel
theorem dU2_54 : decode jdk_52_method_3_code 54 = .ok (.athrow, 1) := by decide +kernel
theorem dU2_55 : decode jdk_52_method_3_code 55 = .ok (.iload_n 0, 1) := by decide +kernel
theorem dU2_56 : decode jdk_52_method_3_code 56 = .ok (.iconst 1, 1) := by decide +kernel
theorem dU2_57 : decode jdk_52_method_3_code 57 = .ok (.ishl, 1) := by decide +kernel
theorem dU2_58 : decode jdk_52_method_3_code 58 = .ok (.ireturn, 1) := by decide +kernel
theorem dU3_0 : decode jdk_52_method_4_code 0 = .ok (.getstatic 44, 3) := by decide +kernel
theorem dU3_3 : decode jdk_52_method_4_code 3 = .ok (.ifCond .ne 25, 3) := by decide +kernel
theorem dU3_6 : decode jdk_52_method_4_code 6 = .ok (.iload_n 1, 1) := by decide +kernel
theorem dU3_7 : decode jdk_52_method_4_code 7 = .ok (.ifCond .lt 11, 3) := by decide +kernel
theorem dU3_10 : decode jdk_52_method_4_code 10 = .ok (.iload_n 1, 1) := by decide +kernel
theorem dU3_11 : decode jdk_52_method_4_code 11 = .ok (.aload_n 0, 1) := by decide +kernel
theorem dU3_12 : decode jdk_52_method_4_code 12 = .ok (.invokestatic 48, 3) := by decide +kernel
theorem dU3_15 : decode jdk_52_method_4_code 15 = .ok (.if_icmp .lt 13, 3) := by decide +kernel
theorem dU3_18 : decode jdk_52_method_4_code 18 = .ok (.new 52, 3) := by decide +kernel
theorem dU3_21 : decode jdk_52_method_4_code 21 = .ok (.dup, 1) := by decide +kernel
theorem dU3_22 : decode jdk_52_method_4_code 22 = .ok (.ldc 54, 2) := by decide +kernel
theorem dU3_24 : decode jdk_52_method_4_code 24 = .ok (.invokespecial 56, 3) := by decide +kernel
theorem dU3_27 : decode jdk_52_method_4_code 27 = .ok (.athrow, 1) := by decide +kernel
theorem dU3_28 : decode jdk_52_method_4_code 28 = .ok (.iload_n 1, 1) := by decide +kernel
theorem dU3_29 : decode jdk_52_method_4_code 29 = .ok (.iconst 1, 1) := by decide +kernel
theorem dU3_30 : decode jdk_52_method_4_code 30 = .ok (.ishl, 1) := by decide +kernel
theorem dU3_31 : decode jdk_52_method_4_code 31 = .ok (.istore_n 1, 1) := by decide +kernel
theorem dU3_32 : decode jdk_52_method_4_code 32 = .ok (.aload_n 0, 1) := by decide +kernel
theorem dU3_33 : decode jdk_52_method_4_code 33 = .ok (.iload_n 1, 1) := by decide +kernel
theorem dU3_34 : decode jdk_52_method_4_code 34 = .ok (.iinc 1 1, 3) := by decide +kernel
theorem dU3_37 : decode jdk_52_method_4_code 37 = .ok (.iload_n 2, 1) := by decide +kernel
theorem dU3_38 : decode jdk_52_method_4_code 38 = .ok (.getstatic 59, 3) := by decide +kernel
theorem dU3_41 : decode jdk_52_method_4_code 41 = .ok (.ishr, 1) := by decide +kernel
theorem dU3_42 : decode jdk_52_method_4_code 42 = .ok (.i2b, 1) := by decide +kernel
theorem dU3_43 : decode jdk_52_method_4_code 43 = .ok (.bastore, 1) := by decide +kernel
theorem dU3_44 : decode jdk_52_method_4_code 44 = .ok (.aload_n 0, 1) := by decide +kernel
theorem dU3_45 : decode jdk_52_method_4_code 45 = .ok (.iload_n 1, 1) := by decide +kernel
theorem dU3_46 : decode jdk_52_method_4_code 46 = .ok (.iload_n 2, 1) := by decide +kernel
theorem dU3_47 : decode jdk_52_method_4_code 47 = .ok (.getstatic 63, 3) := by decide +kernel
theorem dU3_50 : decode jdk_52_method_4_code 50 = .ok (.ishr, 1) := by decide +kernel
theorem dU3_51 : decode jdk_52_method_4_code 51 = .ok (.i2b, 1) := by decide +kernel
theorem dU3_52 : decode jdk_52_method_4_code 52 = .ok (.bastore, 1) := by decide +kernel
theorem dU3_53 : decode jdk_52_method_4_code 53 = .ok (.return_, 1) := by decide +kernel
theorem dU4_0 : decode jdk_52_method_5_code 0 = .ok (.getstatic 44, 3) := by decide +kernel
theorem dU4_3 : decode jdk_52_method_5_code 3 = .ok (.ifCond .ne 25, 3) := by decide +kernel
theorem dU4_6 : decode jdk_52_method_5_code 6 = .ok (.iload_n 1, 1) := by decide +kernel
theorem dU4_7 : decode jdk_52_method_5_code 7 = .ok (.ifCond .lt 11, 3) := by decide +kernel
theorem dU4_10 : decode jdk_52_method_5_code 10 = .ok (.iload_n 1, 1) := by decide +kernel
theorem dU4_11 : decode jdk_52_method_5_code 11 = .ok (.aload_n 0, 1) := by decide +kernel
theorem dU4_12 : decode jdk_52_method_5_code 12 = .ok (.invokestatic 48, 3) := by decide +kernel
theorem dU4_15 : decode jdk_52_method_5_code 15 = .ok (.if_icmp .lt 13, 3) := by decide +kernel
theorem dU4_18 : decode jdk_52_method_5_code 18 = .ok (.new 52, 3) := by decide +kernel
theorem dU4_21 : decode jdk_52_method_5_code 21 = .ok (.dup, 1) := by decide +kernel
theorem dU4_22 : decode jdk_52_method_5_code 22 = .ok (.ldc 54, 2) := by decide +kernel
theorem dU4_24 : decode jdk_52_method_5_code 24 = .ok (.invokespecial 56, 3) := by decide +kernel
theorem dU4_27 : decode jdk_52_method_5_code 27 = .ok (.athrow, 1) := by decide +kernel
theorem dU4_28 : decode jdk_52_method_5_code 28 = .ok (.iload_n 1, 1) := by decide +kernel
theorem dU4_29 : decode jdk_52_method_5_code 29 = .ok (.iconst 1, 1) := by decide +kernel
theorem dU4_30 : decode jdk_52_method_5_code 30 = .ok (.ishl, 1) := by decide +kernel
theorem dU4_31 : decode jdk_52_method_5_code 31 = .ok (.istore_n 1, 1) := by decide +kernel
theorem dU4_32 : decode jdk_52_method_5_code 32 = .ok (.aload_n 0, 1) := by decide +kernel
theorem dU4_33 : decode jdk_52_method_5_code 33 = .ok (.iload_n 1, 1) := by decide +kernel
theorem dU4_34 : decode jdk_52_method_5_code 34 = .ok (.iinc 1 1, 3) := by decide +kernel
theorem dU4_37 : decode jdk_52_method_5_code 37 = .ok (.baload, 1) := by decide +kernel
theorem dU4_38 : decode jdk_52_method_5_code 38 = .ok (.sipush 255, 3) := by decide +kernel
theorem dU4_41 : decode jdk_52_method_5_code 41 = .ok (.iand, 1) := by decide +kernel
theorem dU4_42 : decode jdk_52_method_5_code 42 = .ok (.getstatic 59, 3) := by decide +kernel
theorem dU4_45 : decode jdk_52_method_5_code 45 = .ok (.ishl, 1) := by decide +kernel
theorem dU4_46 : decode jdk_52_method_5_code 46 = .ok (.aload_n 0, 1) := by decide +kernel
theorem dU4_47 : decode jdk_52_method_5_code 47 = .ok (.iload_n 1, 1) := by decide +kernel
theorem dU4_48 : decode jdk_52_method_5_code 48 = .ok (.baload, 1) := by decide +kernel
theorem dU4_49 : decode jdk_52_method_5_code 49 = .ok (.sipush 255, 3) := by decide +kernel
theorem dU4_52 : decode jdk_52_method_5_code 52 = .ok (.iand, 1) := by decide +kernel
theorem dU4_53 : decode jdk_52_method_5_code 53 = .ok (.getstatic 63, 3) := by decide +kernel
theorem dU4_56 : decode jdk_52_method_5_code 56 = .ok (.ishl, 1) := by decide +kernel
theorem dU4_57 : decode jdk_52_method_5_code 57 = .ok (.ior, 1) := by decide +kernel
theorem dU4_58 : decode jdk_52_method_5_code 58 = .ok (.i2c, 1) := by decide +kernel
theorem dU4_59 : decode jdk_52_method_5_code 59 = .ok (.ireturn, 1) := by decide +kernel
theorem pd__I__B : parseMethodDescriptor "(I)[B" = some ⟨[.int], (some (.array .byte))⟩ := by decide +kernel
theorem pd__I_I : parseMethodDescriptor "(I)I" = some ⟨[.int], (some .int)⟩ := by decide +kernel
theorem pd___BII_V : parseMethodDescriptor "([BII)V" = some ⟨[(.array .byte), .int, .int], none⟩ := by decide +kernel
theorem pd___BI_C : parseMethodDescriptor "([BI)C" = some ⟨[(.array .byte), .int], (some .char)⟩ := by decide +kernel
set_option maxRecDepth 65536 in
set_option maxHeartbeats 4000000 in
theorem con_getc (l : Launch) (Z : State) (a0 : Array Value) (hw : ∀ d ∈ tables_1, d.before a0 Z = true) (hEL : EW Z a0 consts_1) (t : Addr) (kb : ClassId) (N : Int32) (vs : List Value) (i : Nat) (c1 : Int32) (h0 : Heap) (O : Ext Z.heap h0) (SA : Sta Z Z.heap "java/lang/StringUTF16" "$assertionsDisabled" "Z" (.int 1)) (SH : Sta Z Z.heap "java/lang/StringUTF16" "HI_BYTE_SHIFT" "I" (.int 0)) (SL : Sta Z Z.heap "java/lang/StringUTF16" "LO_BYTE_SHIFT" "I" (.int 8)) (K : Arv Z h0 t kb .byte N vs (.int 0)) (hi : 2 * i + 1 < N.toNatClampNeg) (h29 : i < 2 ^ 29) (hlo : vs.getD (2 * i) (.int 0) = .int (StrChars.lo8 c1)) (hhi : vs.getD (2 * i + 1) (.int 0) = .int (StrChars.hi8 c1)) (hb : ¬ c1 < 0 ∧ ¬ (65535 : Int32) < c1) :
    Ocon l Z consts_1 (⟨"java/lang/StringUTF16", "getChar", "([BI)C"⟩ : MethodName) jdk_52_method_5_code 2 (some .char) [] ({ frames := 0, cells := 0, slots := 0, locals := 0 } : Room) #[(.ref t), (.int (Int32.ofNat i))] h0 [] [] (fun v h _ => v = some (.int c1) ∧ h0 = h) := by
  refine own_con (a0 := a0) hEL (plainFor_of_name pn_java_lang_StringUTF16) ?_
  intro p e s m below meth c T hs W0
  have ef : entryFrame m #[(.ref t), (.int (Int32.ofNat i))] 2 = mkF m 0 #[.val (.ref t), .val (.int (Int32.ofNat i))] [] := own_entry m [(.ref t), (.int (Int32.ofNat i))] 2 (by simp [Value.category]) rfl
  rw [ef]
  refine g_getS W0 dU4_0 (pc' := 3) rfl (hw _ (List.mem_of_getElem? (i := 53) rfl)) (SA.ext O) ?_
  intro T8 W7
  refine g_ifY W7 dU4_3 (pc' := 28) (feq (by decide : ¬ ((1 : Int32) = (0 : Int32)))).2 (by decide) (by decide) ?_
  refine g_iloadN W7 dU4_28 (pc' := 29) rfl rfl ?_
  refine g_iconst W7 dU4_29 (pc' := 30) rfl (v := 1) rfl ?_
  refine g_ishl W7 dU4_30 (pc' := 31) rfl ?_
  rw [own_dbl h29]
  refine g_istoreN W7 dU4_31 (pc' := 32) rfl (ls' := #[.val (.ref t), .val (.int (Int32.ofNat (2 * i)))]) rfl ?_
  refine g_aloadN W7 dU4_32 (pc' := 33) rfl rfl rfl ?_
  refine g_iloadN W7 dU4_33 (pc' := 34) rfl rfl ?_
  refine g_iinc W7 dU4_34 (pc' := 37) (v := Int32.ofNat (2 * i + 1)) (ls' := #[.val (.ref t), .val (.int (Int32.ofNat (2 * i + 1)))]) rfl rfl (own_succ (2 * i)) rfl ?_
  refine g_baload W7 dU4_37 (pc' := 38) rfl K (i := (2 * i)) rfl (by omega) (v := (.int (StrChars.lo8 c1))) hlo ?_
  refine g_sipush W7 dU4_38 (pc' := 41) rfl (v := 255) rfl ?_
  refine g_iand W7 dU4_41 (pc' := 42) rfl ?_
  refine g_getS W7 dU4_42 (pc' := 45) rfl (hw _ (List.mem_of_getElem? (i := 54) rfl)) (SH.ext O) ?_
  intro T10 W9
  refine g_ishl W9 dU4_45 (pc' := 46) rfl ?_
  refine g_aloadN W9 dU4_46 (pc' := 47) rfl rfl rfl ?_
  refine g_iloadN W9 dU4_47 (pc' := 48) rfl rfl ?_
  refine g_baload W9 dU4_48 (pc' := 49) rfl K (i := (2 * i + 1)) rfl hi (v := (.int (StrChars.hi8 c1))) hhi ?_
  refine g_sipush W9 dU4_49 (pc' := 52) rfl (v := 255) rfl ?_
  refine g_iand W9 dU4_52 (pc' := 53) rfl ?_
  refine g_getS W9 dU4_53 (pc' := 56) rfl (hw _ (List.mem_of_getElem? (i := 55) rfl)) (SL.ext O) ?_
  intro T12 W11
  refine g_ishl W11 dU4_56 (pc' := 57) rfl ?_
  refine g_ior W11 dU4_57 (pc' := 58) rfl ?_
  refine g_i2c W11 dU4_58 (pc' := 59) rfl ?_
  have e9 := StrChars.pair_says hb.1 hb.2
  unfold StrChars.pairCh at e9
  rw [e9]
  exact g_iret W11 dU4_59 rfl (Or.inr (Or.inr (Or.inr (Or.inl rfl)))) (StrChars.narrow_ch hb.1 hb.2) ⟨rfl, rfl⟩
set_option maxRecDepth 65536 in
set_option maxHeartbeats 4000000 in
theorem con_putc (l : Launch) (Z : State) (a0 : Array Value) (hw : ∀ d ∈ tables_1, d.before a0 Z = true) (hEL : EW Z a0 consts_1) (t : Addr) (kb : ClassId) (N : Int32) (vs : List Value) (i : Nat) (c1 : Int32) (h0 : Heap) (O : Ext Z.heap h0) (SA : Sta Z Z.heap "java/lang/StringUTF16" "$assertionsDisabled" "Z" (.int 1)) (SH : Sta Z Z.heap "java/lang/StringUTF16" "HI_BYTE_SHIFT" "I" (.int 0)) (SL : Sta Z Z.heap "java/lang/StringUTF16" "LO_BYTE_SHIFT" "I" (.int 8)) (ht : Z.heap.size ≤ t) (K : Arv Z h0 t kb .byte N vs (.int 0)) (hi : 2 * i + 1 < N.toNatClampNeg) (hl : 2 * i + 1 < vs.length) (hcap : 2 * i + 1 < 6) :
    Ocon l Z consts_1 (⟨"java/lang/StringUTF16", "putChar", "([BII)V"⟩ : MethodName) jdk_52_method_4_code 3 none [] ({ frames := 0, cells := 0, slots := 0, locals := 0 } : Room) #[(.ref t), (.int (Int32.ofNat i)), (.int c1)] h0 [t] ((List.range 6).map fun i => (⟨t, i⟩ : Loc)) (fun v h _ => v = none ∧ Keep h0 h [t] ∧ Arv Z h t kb .byte N ((vs.set (2 * i) (.int (StrChars.lo8 c1))).set (2 * i + 1) (.int (StrChars.hi8 c1))) (.int 0)) := by
  refine own_con (a0 := a0) hEL (plainFor_of_name pn_java_lang_StringUTF16) ?_
  intro p e s m below meth c T hs W0
  have ef : entryFrame m #[(.ref t), (.int (Int32.ofNat i)), (.int c1)] 3 = mkF m 0 #[.val (.ref t), .val (.int (Int32.ofNat i)), .val (.int c1)] [] := own_entry m [(.ref t), (.int (Int32.ofNat i)), (.int c1)] 3 (by simp [Value.category]) rfl
  rw [ef]
  have h29 : i < 2 ^ 29 := by omega
  refine g_getS W0 dU3_0 (pc' := 3) rfl (hw _ (List.mem_of_getElem? (i := 53) rfl)) (SA.ext O) ?_
  intro T14 W13
  refine g_ifY W13 dU3_3 (pc' := 28) (feq (by decide : ¬ ((1 : Int32) = (0 : Int32)))).2 (by decide) (by decide) ?_
  refine g_iloadN W13 dU3_28 (pc' := 29) rfl rfl ?_
  refine g_iconst W13 dU3_29 (pc' := 30) rfl (v := 1) rfl ?_
  refine g_ishl W13 dU3_30 (pc' := 31) rfl ?_
  rw [own_dbl h29]
  refine g_istoreN W13 dU3_31 (pc' := 32) rfl (ls' := #[.val (.ref t), .val (.int (Int32.ofNat (2 * i))), .val (.int c1)]) rfl ?_
  refine g_aloadN W13 dU3_32 (pc' := 33) rfl rfl rfl ?_
  refine g_iloadN W13 dU3_33 (pc' := 34) rfl rfl ?_
  refine g_iinc W13 dU3_34 (pc' := 37) (v := Int32.ofNat (2 * i + 1)) (ls' := #[.val (.ref t), .val (.int (Int32.ofNat (2 * i + 1))), .val (.int c1)]) rfl rfl (own_succ (2 * i)) rfl ?_
  refine g_iloadN W13 dU3_37 (pc' := 38) rfl rfl ?_
  refine g_getS W13 dU3_38 (pc' := 41) rfl (hw _ (List.mem_of_getElem? (i := 54) rfl)) (SH.ext O) ?_
  intro T16 W15
  refine g_ishr W15 dU3_41 (pc' := 42) rfl ?_
  refine g_i2b W15 dU3_42 (pc' := 43) rfl ?_
  refine g_bastore W15 dU3_43 (pc' := 44) rfl K (i := 2 * i) rfl (by omega) (by omega) ((own_lo8 _).trans (congrArg StrChars.lo8 (StrChars.shr0 c1))) rfl (by simp) (Or.inl (by simp; omega)) ?_
  intro T17 h18 w19 A20 W21
  have O1 := own_ext_wr O w19 ht
  refine g_aloadN W21 dU3_44 (pc' := 45) rfl rfl rfl ?_
  refine g_iloadN W21 dU3_45 (pc' := 46) rfl rfl ?_
  refine g_iloadN W21 dU3_46 (pc' := 47) rfl rfl ?_
  refine g_getS W21 dU3_47 (pc' := 50) rfl (hw _ (List.mem_of_getElem? (i := 55) rfl)) (SL.ext O1) ?_
  intro T24 W23
  refine g_ishr W23 dU3_50 (pc' := 51) rfl ?_
  refine g_i2b W23 dU3_51 (pc' := 52) rfl ?_
  refine g_bastore W23 dU3_52 (pc' := 53) rfl A20 (i := 2 * i + 1) rfl hi (by rw [List.length_set]; exact hl) (own_lo8 _) rfl (by simp) (Or.inl (by simp; omega)) ?_
  intro T25 h26 w27 A28 W29
  exact g_return W29 dU3_53 rfl ⟨rfl, ((Keep.refl _ _).wr w19 (Or.inl (by simp))).wr w27 (Or.inl (by simp)), A28⟩
set_option maxRecDepth 65536 in
set_option maxHeartbeats 4000000 in
theorem con_nbl (l : Launch) (Z : State) (a0 : Array Value) (hw : ∀ d ∈ tables_1, d.before a0 Z = true) (hEL : EW Z a0 consts_1) (n : Nat) (h0 : Heap) (hcap : n ≤ 3) :
    Ocon l Z consts_1 (⟨"java/lang/StringUTF16", "newBytesLength", "(I)I"⟩ : MethodName) jdk_52_method_3_code 1 (some .int) [] ({ frames := 0, cells := 0, slots := 0, locals := 0 } : Room) #[(.int (Int32.ofNat n))] h0 [] [] (fun v h _ => v = some (.int (Int32.ofNat (2 * n))) ∧ h0 = h) := by
  refine own_con (a0 := a0) hEL (plainFor_of_name pn_java_lang_StringUTF16) ?_
  intro p e s m below meth c T hs W0
  have ef : entryFrame m #[(.int (Int32.ofNat n))] 1 = mkF m 0 #[.val (.int (Int32.ofNat n))] [] := own_entry m [(.int (Int32.ofNat n))] 1 (by simp [Value.category]) rfl
  rw [ef]
  refine g_iloadN W0 dU2_0 (pc' := 1) rfl rfl ?_
  refine g_ifY W0 dU2_1 (pc' := 12) (flt (own_nn (by omega))).2.1 (by decide) (by decide) ?_
  refine g_iloadN W0 dU2_12 (pc' := 13) rfl rfl ?_
  refine g_ldcI W0 dU2_13 (pc' := 15) rfl (hw _ (List.mem_of_getElem? (i := 49) rfl)) ?_
  refine g_icY W0 dU2_15 (pc' := 55) (tlt (own_lt (n := 1073741823) (by decide) (by omega))).1 (by decide) (by decide) ?_
  refine g_iloadN W0 dU2_55 (pc' := 56) rfl rfl ?_
  refine g_iconst W0 dU2_56 (pc' := 57) rfl (v := 1) rfl ?_
  refine g_ishl W0 dU2_57 (pc' := 58) rfl ?_
  rw [own_dbl (by omega)]
  exact g_iret W0 dU2_58 rfl (Or.inl rfl) rfl ⟨rfl, rfl⟩
set_option maxRecDepth 65536 in
set_option maxHeartbeats 4000000 in
theorem con_nbf (l : Launch) (Z : State) (a0 : Array Value) (hw : ∀ d ∈ tables_1, d.before a0 Z = true) (hEL : EW Z a0 consts_1) (n : Nat) (h0 : Heap) (hcap : n ≤ 3) :
    Ocon l Z consts_1 (⟨"java/lang/StringUTF16", "newBytesFor", "(I)[B"⟩ : MethodName) jdk_52_method_2_code 1 (some (.array .byte)) [] ({ frames := 1, cells := 1, slots := 6, locals := 12 } : Room) #[(.int (Int32.ofNat n))] h0 [] [] (fun v h SF => ∃ (t : Addr) (kb : ClassId), v = some (.ref t) ∧ Ext h0 h ∧ h0.size ≤ t ∧ t ∈ SF ∧ Arv Z h t kb .byte (Int32.ofNat (2 * n)) (List.replicate (2 * n) (.int 0)) (.int 0)) := by
  refine own_con (a0 := a0) hEL (plainFor_of_name pn_java_lang_StringUTF16) ?_
  intro p e s m below meth c T hs W0
  have ef : entryFrame m #[(.int (Int32.ofNat n))] 1 = mkF m 0 #[.val (.int (Int32.ofNat n))] [] := own_entry m [(.int (Int32.ofNat n))] 1 (by simp [Value.category]) rfl
  rw [ef]
  refine g_iloadN W0 dU1_0 (pc' := 1) rfl rfl ?_
  refine g_static W0 dU1_1 (pc' := 4) rfl (hw _ (List.mem_of_getElem? (i := 46) rfl)) (hw _ (List.mem_of_getElem? (i := 47) rfl)) (hw _ (List.mem_of_getElem? (i := 34) rfl)) (hw _ (List.mem_of_getElem? (i := 48) rfl)) (by decide) (con_nbl l Z a0 hw hEL n h0 hcap) pd__I_I (argsL := [(.int (Int32.ofNat n))]) (st := []) rfl rfl rfl rfl (by decide) (w := 0) (Nat.le_of_eq rfl) (by decide) (by decide) (by decide) (by simp) (fun q hq => nomatch hq) ?_
  intro v31 T32 h33 S36 q34 W37
  have W35 := W37.sf (SF' := []) (fun _ hx => List.mem_append_right _ hx)
  obtain ⟨rfl, rfl⟩ := q34
  refine g_newP W35 dU1_4 (pc' := 6) (cap := 6) rfl (ty := .byte) (dv := (.int 0)) rfl rfl (hw _ (List.mem_of_getElem? (i := 36) rfl)) (own_nn (by omega)) (by rw [own_clamp (by omega)]; omega) (by decide) (by decide) (by decide) ?_
  intro T38 h39 cA40 E41 A42 W43
  obtain ⟨a44, g45⟩ : ∃ z, z = h0.size := ⟨_, rfl⟩
  rw [← g45] at A42 W43 ⊢
  exact g_aret W43 dU1_6 rfl rfl rfl rfl ⟨a44, _, rfl, E41, (by first | exact Nat.le_refl _ | exact Nat.le_of_eq g45.symm), by simp, own_pad0 _ A42⟩
set_option maxRecDepth 65536 in
set_option maxHeartbeats 4000000 in
theorem con_tob (l : Launch) (Z : State) (a0 : Array Value) (hw : ∀ d ∈ tables_1, d.before a0 Z = true) (hEL : EW Z a0 consts_1) (b : Addr) (kC : ClassId) (cs : List Int32) (dv : Value) (n : Nat) (h0 : Heap) (O : Ext Z.heap h0) (SA : Sta Z Z.heap "java/lang/StringUTF16" "$assertionsDisabled" "Z" (.int 1)) (SH : Sta Z Z.heap "java/lang/StringUTF16" "HI_BYTE_SHIFT" "I" (.int 0)) (SL : Sta Z Z.heap "java/lang/StringUTF16" "LO_BYTE_SHIFT" "I" (.int 8)) (hn : cs.length = n) (hcap : n ≤ 3) (K : Arv Z h0 b kC .char (Int32.ofNat n) (cs.map Value.int) dv) :
    Ocon l Z consts_1 (⟨"java/lang/StringUTF16", "toBytes", "([CII)[B"⟩ : MethodName) jdk_52_method_14_code 5 (some (.array .byte)) [] ({ frames := 2, cells := 1, slots := 6, locals := 24 } : Room) #[(.ref b), (.int (0 : Int32)), (.int (Int32.ofNat n))] h0 [] [] (fun v h _ => ∃ (t : Addr) (kb : ClassId), v = some (.ref t) ∧ Ext h0 h ∧ h0.size ≤ t ∧ Arv Z h t kb .byte (Int32.ofNat (2 * n)) (StrChars.Road.wideBytes cs) (.int 0)) := by
  refine own_con (a0 := a0) hEL (plainFor_of_name pn_java_lang_StringUTF16) ?_
  intro p e s m below meth c T hs W0
  have hcl : (Int32.ofNat n).toNatClampNeg = n := own_clamp (by omega)
  have hcl2 : (Int32.ofNat (2 * n)).toNatClampNeg = 2 * n := own_clamp (by omega)
  have loop : ∀ (t : Addr) (kb : ClassId) (kk i : Nat) (T : State) (h : Heap), h0.size ≤ t → s.heap.size ≤ t → i + kk = n → Ext h0 h → Arv Z h t kb .byte (Int32.ofNat (2 * n)) (own_wide cs n i) (.int 0) → Owk p l e ({ frames := 2, cells := 1, slots := 6, locals := 24 } : Room) s m #[(.ref b), (.int (0 : Int32)), (.int (Int32.ofNat n))] below meth c Z a0 consts_1 [] "java/lang/StringUTF16" "toBytes" jdk_52_method_14_code 5 (some (.array .byte)) T h [t] 1 6 → Ogo p l e ({ frames := 2, cells := 1, slots := 6, locals := 24 } : Room) s m #[(.ref b), (.int (0 : Int32)), (.int (Int32.ofNat n))] below meth c Z a0 consts_1 [] "java/lang/StringUTF16" "toBytes" jdk_52_method_14_code 5 (some (.array .byte)) T (mkF m 8 #[.val (.ref b), .val (.int (Int32.ofNat i)), .val (.int (Int32.ofNat n)), .val (.ref t), .val (.int (Int32.ofNat i))] []) (fun v h _ => ∃ (t : Addr) (kb : ClassId), v = some (.ref t) ∧ Ext h0 h ∧ h0.size ≤ t ∧ Arv Z h t kb .byte (Int32.ofNat (2 * n)) (StrChars.Road.wideBytes cs) (.int 0)) := by
    intro t kb kk
    induction kk with
    | zero =>
      intro i T h ht hts hi X hD W0
      obtain rfl : n = i := by omega
      rw [own_widen cs hn] at hD
      refine g_iload W0 dU0_8 (pc' := 10) rfl rfl ?_
      refine g_iloadN W0 dU0_10 (pc' := 11) rfl rfl ?_
      refine g_icY W0 dU0_11 (pc' := 32) (flt Int32.lt_irrefl).2.1 (by decide) (by decide) ?_
      refine g_aloadN W0 dU0_32 (pc' := 33) rfl rfl rfl ?_
      exact g_aret W0 dU0_33 rfl rfl rfl rfl ⟨t, kb, rfl, X, ht, hD⟩
    | succ kk ih =>
      intro i T h ht hts hi X hD W0
      have hin : i < n := by omega
      have hlt := own_lt (by omega) hin
      refine g_iload W0 dU0_8 (pc' := 10) rfl rfl ?_
      refine g_iloadN W0 dU0_10 (pc' := 11) rfl rfl ?_
      refine g_icN W0 dU0_11 (pc' := 14) (tlt hlt).2.1 rfl ?_
      refine g_aloadN W0 dU0_14 (pc' := 15) rfl rfl rfl ?_
      refine g_iload W0 dU0_15 (pc' := 17) rfl rfl ?_
      refine g_aloadN W0 dU0_17 (pc' := 18) rfl rfl rfl ?_
      refine g_iloadN W0 dU0_18 (pc' := 19) rfl rfl ?_
      refine g_caload W0 dU0_19 (pc' := 20) rfl (K.ext X) (i := i) rfl (by rw [hcl]; exact hin) (v := (.int (cs.getD i 0))) (own_getI cs dv (by omega)) ?_
      refine g_static W0 dU0_20 (pc' := 23) rfl (hw _ (List.mem_of_getElem? (i := 50) rfl)) (hw _ (List.mem_of_getElem? (i := 51) rfl)) (hw _ (List.mem_of_getElem? (i := 34) rfl)) (hw _ (List.mem_of_getElem? (i := 52) rfl)) (by decide) (con_putc l Z a0 hw hEL t kb _ _ i (cs.getD i 0) h (own_ext_tr O X) SA SH SL (Nat.le_trans O.1 ht) hD (by rw [hcl2]; omega) (by rw [own_widelen cs hn (by omega)]; omega) (by omega)) pd___BII_V (argsL := [(.ref t), (.int (Int32.ofNat i)), (.int (cs.getD i 0))]) (st := []) rfl rfl rfl rfl (by decide) (w := 0) (Nat.le_of_eq rfl) (by decide) (by decide) (by decide) (by simp) (fun q hq => Or.inr (by obtain ⟨i, -, rfl⟩ := List.mem_map.mp hq; exact hts)) ?_
      intro v46 T47 h48 S51 q49 W52
      have W50 := W52.sf (SF' := [t]) (fun _ hx => List.mem_append_right _ hx)
      obtain ⟨rfl, qK, qA⟩ := q49
      rw [own_wideset cs hn hin] at qA
      refine g_iinc W50 dU0_23 (pc' := 26) (v := Int32.ofNat (i + 1)) (ls' := #[.val (.ref b), .val (.int (Int32.ofNat (i + 1))), .val (.int (Int32.ofNat n)), .val (.ref t), .val (.int (Int32.ofNat i))]) rfl rfl (own_succ i) rfl ?_
      refine g_iinc W50 dU0_26 (pc' := 29) (v := Int32.ofNat (i + 1)) (ls' := #[.val (.ref b), .val (.int (Int32.ofNat (i + 1))), .val (.int (Int32.ofNat n)), .val (.ref t), .val (.int (Int32.ofNat (i + 1)))]) rfl rfl (own_succ i) rfl ?_
      refine g_goto W50 dU0_29 (pc' := 8) (by decide) (by decide) ?_
      exact ih (i + 1) T47 h48 ht hts (by omega) (own_ext_keep X qK (by intro y hy; rw [List.mem_singleton.mp hy]; exact ht)) qA W50
  have ef : entryFrame m #[(.ref b), (.int (0 : Int32)), (.int (Int32.ofNat n))] 5 = mkF m 0 #[.val (.ref b), .val (.int (0 : Int32)), .val (.int (Int32.ofNat n)), .unset, .unset] [] := own_entry m [(.ref b), (.int (0 : Int32)), (.int (Int32.ofNat n))] 5 (by simp [Value.category]) rfl
  rw [ef]
  refine g_iloadN W0 dU0_0 (pc' := 1) rfl rfl ?_
  refine g_static W0 dU0_1 (pc' := 4) rfl (hw _ (List.mem_of_getElem? (i := 43) rfl)) (hw _ (List.mem_of_getElem? (i := 44) rfl)) (hw _ (List.mem_of_getElem? (i := 34) rfl)) (hw _ (List.mem_of_getElem? (i := 45) rfl)) (by decide) (con_nbf l Z a0 hw hEL n h0 hcap) pd__I__B (argsL := [(.int (Int32.ofNat n))]) (st := []) rfl rfl rfl rfl (by decide) (w := 0) (Nat.le_of_eq rfl) (by decide) (by decide) (by decide) (by simp) (fun q hq => nomatch hq) ?_
  intro v53 T54 h55 S58 q56 W59
  obtain ⟨t, kb, rfl, X, ht, tS, A⟩ := q56
  refine g_astoreN W59 dU0_4 (pc' := 5) rfl (ls' := #[.val (.ref b), .val (.int (0 : Int32)), .val (.int (Int32.ofNat n)), .val (.ref t), .unset]) rfl rfl ?_
  refine g_iconst W59 dU0_5 (pc' := 6) rfl (v := 0) rfl ?_
  refine g_istore W59 dU0_6 (pc' := 8) rfl (ls' := #[.val (.ref b), .val (.int (0 : Int32)), .val (.int (Int32.ofNat n)), .val (.ref t), .val (.int (0 : Int32))]) rfl ?_
  exact loop t kb n 0 T54 h55 ht (by rw [hs]; exact ht) (by omega) X (by rw [own_wide0]; exact A) (W59.sf (SF' := [t]) (fun x hx => by rw [List.mem_singleton.mp hx]; exact List.mem_append_left _ tS))
set_option maxRecDepth 65536 in
set_option maxHeartbeats 4000000 in
theorem con_cmp3 (l : Launch) (Z : State) (a0 : Array Value) (hw : ∀ d ∈ tables_1, d.before a0 Z = true) (hEL : EW Z a0 consts_1) (b : Addr) (kC : ClassId) (cs : List Int32) (dv : Value) (n : Nat) (h0 : Heap) (O : Ext Z.heap h0) (SA : Sta Z Z.heap "java/lang/StringUTF16" "$assertionsDisabled" "Z" (.int 1)) (SH : Sta Z Z.heap "java/lang/StringUTF16" "HI_BYTE_SHIFT" "I" (.int 0)) (SL : Sta Z Z.heap "java/lang/StringUTF16" "LO_BYTE_SHIFT" "I" (.int 8)) (hn : cs.length = n) (hcap : n ≤ 3) (K : Arv Z h0 b kC .char (Int32.ofNat n) (cs.map Value.int) dv) (hb : ∀ c ∈ cs, ¬ c < 0 ∧ ¬ (65535 : Int32) < c) :
    Ocon l Z consts_1 (⟨"java/lang/StringUTF16", "compress", "([CII)[B"⟩ : MethodName) jdk_52_method_16_code 6 (some (.array .byte)) [] ({ frames := 3, cells := 2, slots := 9, locals := 40 } : Room) #[(.ref b), (.int (0 : Int32)), (.int (Int32.ofNat n))] h0 [] [] (fun v h _ => ∃ (t : Addr) (kb : ClassId) (cd N2 : Int32) (vs : List Value), v = some (.ref t) ∧ Ext h0 h ∧ h0.size ≤ t ∧ Arv Z h t kb .byte N2 vs (.int 0) ∧ StrChars.Road.CodA cs cd N2 vs) := by
  refine own_con (a0 := a0) hEL (plainFor_of_name pn_java_lang_StringUTF16) ?_
  intro p e s m below meth c T hs W0
  have ef : entryFrame m #[(.ref b), (.int (0 : Int32)), (.int (Int32.ofNat n))] 6 = mkF m 0 #[.val (.ref b), .val (.int (0 : Int32)), .val (.int (Int32.ofNat n)), .unset, .unset, .unset] [] := own_entry m [(.ref b), (.int (0 : Int32)), (.int (Int32.ofNat n))] 6 (by simp [Value.category]) rfl
  rw [ef]
  have hcl : (Int32.ofNat n).toNatClampNeg = n := own_clamp (by omega)
  have hcl2 : (Int32.ofNat (2 * n)).toNatClampNeg = 2 * n := own_clamp (by omega)
  refine g_iloadN W0 dS1_0 (pc' := 1) rfl rfl ?_
  refine g_newP W0 dS1_1 (pc' := 3) (cap := 3) rfl (ty := .byte) (dv := (.int 0)) rfl rfl (hw _ (List.mem_of_getElem? (i := 36) rfl)) (own_nn (by omega)) (by rw [hcl]; exact hcap) (by decide) (by decide) (by decide) ?_
  intro T60 h61 cA62 E63 A64 W65
  obtain ⟨a66, g67⟩ : ∃ z, z = h0.size := ⟨_, rfl⟩
  rw [← g67] at A64 W65 ⊢
  refine g_astoreN W65 dS1_3 (pc' := 4) rfl (ls' := #[.val (.ref b), .val (.int (0 : Int32)), .val (.int (Int32.ofNat n)), .val (.ref a66), .unset, .unset]) rfl rfl ?_
  refine g_aloadN W65 dS1_4 (pc' := 5) rfl rfl rfl ?_
  refine g_iloadN W65 dS1_5 (pc' := 6) rfl rfl ?_
  refine g_aloadN W65 dS1_6 (pc' := 7) rfl rfl rfl ?_
  refine g_iconst W65 dS1_7 (pc' := 8) rfl (v := 0) rfl ?_
  refine g_iloadN W65 dS1_8 (pc' := 9) rfl rfl ?_
  have hne : b ≠ a66 := Nat.ne_of_lt (by rw [g67]; exact K.lt)
  refine g_static W65 dS1_9 (pc' := 12) rfl (hw _ (List.mem_of_getElem? (i := 37) rfl)) (hw _ (List.mem_of_getElem? (i := 38) rfl)) (hw _ (List.mem_of_getElem? (i := 34) rfl)) (hw _ (List.mem_of_getElem? (i := 39) rfl)) (by decide) (con_cmp5 l Z a0 hw hEL b a66 kC cA62 cs dv n h61 hn hcap (K.ext E63) (own_pad0 n A64) hne) pd___CI_BII_I (argsL := [(.ref b), (.int (0 : Int32)), (.ref a66), (.int (0 : Int32)), (.int (Int32.ofNat n))]) (st := []) rfl rfl rfl rfl (by decide) (w := 0) (Nat.le_of_eq rfl) (by decide) (by decide) (by decide) (by simp) (fun q hq => Or.inr (by obtain ⟨i, -, rfl⟩ := List.mem_map.mp hq; show s.heap.size ≤ a66; rw [g67]; exact W0.grown)) ?_
  intro v68 T69 h70 S73 q71 W74
  have W72 := W74.sf (SF' := [a66]) (fun _ hx => List.mem_append_right _ hx)
  obtain ⟨r, hr1, rfl, hK, hr2, hr3, hD⟩ := q71
  have X1 : Ext h0 h70 := own_ext_keep E63 hK (by intro x hx; rw [List.mem_singleton.mp hx, g67]; exact Nat.le_refl _)
  refine g_istore W72 dS1_12 (pc' := 14) rfl (ls' := #[.val (.ref b), .val (.int (0 : Int32)), .val (.int (Int32.ofNat n)), .val (.ref a66), .val (.int (Int32.ofNat r)), .unset]) rfl ?_
  refine g_iload W72 dS1_14 (pc' := 16) rfl rfl ?_
  refine g_iloadN W72 dS1_16 (pc' := 17) rfl rfl ?_
  rcases Nat.lt_or_ge r n with hrn | hrn
  · skip
    refine g_icN W72 dS1_17 (pc' := 20) (feq (fun z => Nat.ne_of_lt hrn (own_inj (by omega) (by omega) z))).1 rfl ?_
    refine g_aloadN W72 dS1_20 (pc' := 21) rfl rfl rfl ?_
    refine g_iloadN W72 dS1_21 (pc' := 22) rfl rfl ?_
    refine g_iloadN W72 dS1_22 (pc' := 23) rfl rfl ?_
    refine g_static W72 dS1_23 (pc' := 26) rfl (hw _ (List.mem_of_getElem? (i := 40) rfl)) (hw _ (List.mem_of_getElem? (i := 41) rfl)) (hw _ (List.mem_of_getElem? (i := 34) rfl)) (hw _ (List.mem_of_getElem? (i := 42) rfl)) (by decide) (con_tob l Z a0 hw hEL b kC cs dv n h70 (own_ext_tr O X1) SA SH SL hn hcap (K.ext X1)) pd___CII__B (argsL := [(.ref b), (.int (0 : Int32)), (.int (Int32.ofNat n))]) (st := []) rfl rfl rfl rfl (by decide) (w := 0) (Nat.le_of_eq rfl) (by decide) (by decide) (by decide) (by simp) (fun q hq => nomatch hq) ?_
    intro v75 T76 h77 S80 q78 W81
    have W79 := W81.sf (SF' := [a66]) (fun _ hx => List.mem_append_right _ hx)
    obtain ⟨t2, kb2, rfl, X2, ht2, A2⟩ := q78
    have X3 := own_ext_tr X1 X2
    refine g_astore W79 dS1_26 (pc' := 28) rfl (ls' := #[.val (.ref b), .val (.int (0 : Int32)), .val (.int (Int32.ofNat n)), .val (.ref a66), .val (.int (Int32.ofNat r)), .val (.ref t2)]) rfl rfl ?_
    refine g_aload W79 dS1_28 (pc' := 30) rfl rfl rfl ?_
    refine g_iload W79 dS1_30 (pc' := 32) rfl rfl ?_
    have hrc : r < cs.length := by omega
    refine g_static W79 dS1_32 (pc' := 35) rfl (hw _ (List.mem_of_getElem? (i := 56) rfl)) (hw _ (List.mem_of_getElem? (i := 57) rfl)) (hw _ (List.mem_of_getElem? (i := 34) rfl)) (hw _ (List.mem_of_getElem? (i := 58) rfl)) (by decide) (con_getc l Z a0 hw hEL t2 kb2 _ _ r (cs.getD r 0) h77 (own_ext_tr O X3) SA SH SL A2 (by rw [hcl2]; omega) (by omega) (own_wide_lo cs hrc) (own_wide_hi cs hrc) (hb _ (own_mem hrc))) pd___BI_C (argsL := [(.ref t2), (.int (Int32.ofNat r))]) (st := []) rfl rfl rfl rfl (by decide) (w := 0) (Nat.le_of_eq rfl) (by decide) (by decide) (by decide) (by simp) (fun q hq => nomatch hq) ?_
    intro v82 T83 h84 S87 q85 W88
    have W86 := W88.sf (SF' := [a66]) (fun _ hx => List.mem_append_right _ hx)
    obtain ⟨rfl, rfl⟩ := q85
    refine g_sipush W86 dS1_35 (pc' := 38) rfl (v := 255) rfl ?_
    refine g_icY W86 dS1_38 (pc' := 54) (tlt (hr3 hrn)).2.2.1 (by decide) (by decide) ?_
    refine g_aload W86 dS1_54 (pc' := 56) rfl rfl rfl ?_
    exact g_aret W86 dS1_56 rfl rfl rfl rfl ⟨t2, kb2, 1, _, _, rfl, X3, (by first | exact Nat.le_trans X1.1 ht2 | (rw [g67]; exact Nat.le_trans X1.1 ht2)), A2, Or.inr ⟨rfl, by rw [hn], rfl, _, own_mem hrc, hr3 hrn⟩⟩
  · skip
    obtain rfl : n = r := by omega
    refine g_icY W72 dS1_17 (pc' := 57) (teq rfl).1 (by decide) (by decide) ?_
    rw [own_cmpn cs hn] at hD
    refine g_aloadN W72 dS1_57 (pc' := 58) rfl rfl rfl ?_
    exact g_aret W72 dS1_58 rfl rfl rfl rfl ⟨a66, _, 0, _, _, rfl, X1, (by first | exact Nat.le_refl _ | exact Nat.le_of_eq g67.symm), hD, Or.inl ⟨rfl, by rw [hn], rfl, fun c hc => own_all hn hr2 c hc⟩⟩
set_option maxRecDepth 65536 in
set_option maxHeartbeats 4000000 in
theorem con_cod (l : Launch) (Z : State) (a0 : Array Value) (hw : ∀ d ∈ tables_1, d.before a0 Z = true) (hEL : EW Z a0 consts_1) (t : Addr) (kb : ClassId) (cs : List Int32) (cd N2 : Int32) (vs : List Value) (dv : Value) (n : Nat) (h0 : Heap) (hn : cs.length = n) (hcap : n ≤ 3) (K : Arv Z h0 t kb .byte N2 vs dv) (hc : StrChars.Road.CodA cs cd N2 vs) :
    Ocon l Z consts_1 (⟨"java/lang/StringUTF16", "coderFromArrayLen", "([BI)B"⟩ : MethodName) jdk_52_method_15_code 2 (some .byte) [] ({ frames := 0, cells := 0, slots := 0, locals := 0 } : Room) #[(.ref t), (.int (Int32.ofNat n))] h0 [] [] (fun v h _ => v = some (.int cd) ∧ (cd = 0 ∨ cd = 1) ∧ h0 = h) := by
  refine own_con (a0 := a0) hEL (plainFor_of_name pn_java_lang_StringUTF16) ?_
  intro p e s m below meth c T hs W0
  have ef : entryFrame m #[(.ref t), (.int (Int32.ofNat n))] 2 = mkF m 0 #[.val (.ref t), .val (.int (Int32.ofNat n))] [] := own_entry m [(.ref t), (.int (Int32.ofNat n))] 2 (by simp [Value.category]) rfl
  rw [ef]
  refine g_iloadN W0 dS2_0 (pc' := 1) rfl rfl ?_
  refine g_aloadN W0 dS2_1 (pc' := 2) rfl rfl rfl ?_
  refine g_alen W0 dS2_2 (pc' := 3) rfl K ?_
  refine g_isub W0 dS2_3 (pc' := 4) rfl ?_
  refine g_bipush W0 dS2_4 (pc' := 6) rfl (v := 31) rfl ?_
  refine g_iushr W0 dS2_6 (pc' := 7) rfl ?_
  refine g_i2b W0 dS2_7 (pc' := 8) rfl ?_
  rcases hc with ⟨rfl, rfl, -, -⟩ | ⟨rfl, rfl, -, c1, hc1, -⟩
  · skip
    rw [show ((XT.ushr ((Int32.ofNat n) - (Int32.ofNat cs.length)) (31 : Int32))).toInt8.toInt32 = 0 from by rw [hn, Int32.sub_self]; decide]
    exact g_iret W0 dS2_8 rfl (Or.inr (Or.inr (Or.inl rfl))) rfl ⟨rfl, Or.inl rfl, rfl⟩
  · skip
    rw [show ((XT.ushr ((Int32.ofNat n) - (Int32.ofNat (2 * cs.length))) (31 : Int32))).toInt8.toInt32 = 1 from by subst hn; exact own_neg (List.length_pos_of_mem hc1) (by omega)]
    exact g_iret W0 dS2_8 rfl (Or.inr (Or.inr (Or.inl rfl))) rfl ⟨rfl, Or.inr rfl, rfl⟩
theorem pn_java_lang_String : plainName "java/lang/String" = true := by first | (simp [plainName, overriddenIn]; done) | decide +kernel
set_option maxRecDepth 65536 in
set_option maxHeartbeats 4000000 in
theorem con_new4 (l : Launch) (Z : State) (a0 : Array Value) (hw : ∀ d ∈ tables_1, d.before a0 Z = true) (hEL : EW Z a0 consts_1) (x b : Addr) (kC : ClassId) (cs : List Int32) (dv v0 c0 : Value) (z : Int32) (n : Nat) (h0 : Heap) (O : Ext Z.heap h0) (SA : Sta Z Z.heap "java/lang/StringUTF16" "$assertionsDisabled" "Z" (.int 1)) (SH : Sta Z Z.heap "java/lang/StringUTF16" "HI_BYTE_SHIFT" "I" (.int 0)) (SL : Sta Z Z.heap "java/lang/StringUTF16" "LO_BYTE_SHIFT" "I" (.int 8)) (hx : Z.heap.size ≤ x) (hn : cs.length = n) (hcap : n ≤ 3) (E : Exa Z h0 x "java/lang/String") (FV : Fld Z h0 x "java/lang/String" "value" "[B" v0) (FC : Fld Z h0 x "java/lang/String" "coder" "B" c0) (K : Arv Z h0 b kC .char (Int32.ofNat n) (cs.map Value.int) dv) (hb : ∀ c ∈ cs, ¬ c < 0 ∧ ¬ (65535 : Int32) < c) (SC : Sta Z Z.heap "java/lang/String" "COMPACT_STRINGS" "Z" (.int z)) (hz : ¬ z = 0) :
    Ocon l Z consts_1 (⟨"java/lang/String", "<init>", "([CIILjava/lang/Void;)V"⟩ : MethodName) jdk_42_method_149_code 6 none [] ({ frames := 4, cells := 4, slots := 17, locals := 57 } : Room) #[(.ref x), (.ref b), (.int (0 : Int32)), (.int (Int32.ofNat n)), .null] h0 [x] [(⟨x, RoadKit.slotOf Z "java/lang/String" "coder" "B"⟩ : Loc), (⟨x, RoadKit.slotOf Z "java/lang/String" "value" "[B"⟩ : Loc)] (fun v h _ => v = none ∧ Keep h0 h [x] ∧ OStr Z h x cs) := by
  refine own_con (a0 := a0) hEL (plainFor_of_name pn_java_lang_String) ?_
  intro p e s m below meth c T hs W0
  have ef : entryFrame m #[(.ref x), (.ref b), (.int (0 : Int32)), (.int (Int32.ofNat n)), .null] 6 = mkF m 0 #[.val (.ref x), .val (.ref b), .val (.int (0 : Int32)), .val (.int (Int32.ofNat n)), .val .null, .unset] [] := own_entry m [(.ref x), (.ref b), (.int (0 : Int32)), (.int (Int32.ofNat n)), .null] 6 (by simp [Value.category]) rfl
  rw [ef]
  have hsl : RoadKit.slotOf Z "java/lang/String" "value" "[B" ≠ RoadKit.slotOf Z "java/lang/String" "coder" "B" := slot_ne (t := .array .byte) (t' := .byte) (Or.inr (hw _ (List.mem_of_getElem? (i := 65) rfl))) (Or.inr (hw _ (List.mem_of_getElem? (i := 63) rfl))) (by decide) (by decide) (by decide)
  have hSt : ∀ a ∈ Bundle.stringAtoms, a.before a0 Z = true := own_str hw
  refine g_aloadN W0 dS3_0 (pc' := 1) rfl rfl rfl ?_
  refine g_initO W0 dS3_1 (pc' := 4) rfl (hw _ (List.mem_of_getElem? (i := 28) rfl)) (hw _ (List.mem_of_getElem? (i := 29) rfl)) (hw _ (List.mem_of_getElem? (i := 30) rfl)) rfl (by decide) (w := 0) (Nat.le_refl _) (by decide) ?_
  intro T89 W90
  refine g_iloadN W90 dS3_4 (pc' := 5) rfl rfl ?_
  rcases Nat.eq_zero_or_pos n with hn0 | hn0
  · skip
    subst hn0
    obtain rfl : cs = [] := List.length_eq_zero_iff.mp hn
    refine g_ifN W90 dS3_5 (pc' := 8) (teq (rfl : Int32.ofNat 0 = 0)).2 rfl ?_
    refine g_aloadN W90 dS3_8 (pc' := 9) rfl rfl rfl ?_
    refine g_ldcS W90 dS3_9 (pc' := 11) (text := "") (vs := []) (z := 0) (n := 0) rfl (hw _ (List.mem_of_getElem? (i := 140) rfl)) hSt (by decide) ⟨by decide, rfl⟩ (by decide) rfl (by decide) (by decide) (by decide) (by decide) ?_
    intro T91 h92 a93 b94 k95 E96 f97 f98 f99 f100 W101
    refine g_getF W101 dS3_11 (pc' := 14) rfl (hw _ (List.mem_of_getElem? (i := 64) rfl)) f99 ?_
    intro T103 W102
    refine g_putF W102 dS3_14 (pc' := 17) rfl (hw _ (List.mem_of_getElem? (i := 64) rfl)) (FV.ext E96) (E.ext E96) (Or.inr ⟨(hw _ (List.mem_of_getElem? (i := 65) rfl)), rfl, rfl⟩) (hw _ (List.mem_of_getElem? (i := 18) rfl)) (ty := .array .byte) (by decide) rfl rfl (by simp) (Or.inl (by simp)) ?_
    intro T104 h105 w106 W107
    refine g_aloadN W107 dS3_17 (pc' := 18) rfl rfl rfl ?_
    refine g_ldcS W107 dS3_18 (pc' := 20) (text := "") (vs := []) (z := 0) (n := 0) rfl (hw _ (List.mem_of_getElem? (i := 140) rfl)) hSt (by decide) ⟨by decide, rfl⟩ (by decide) rfl (by decide) (by decide) (by decide) (by decide) ?_
    intro T108 h109 a110 b111 k112 E113 f114 f115 f116 f117 W118
    refine g_getF W118 dS3_20 (pc' := 23) rfl (hw _ (List.mem_of_getElem? (i := 62) rfl)) f115 ?_
    intro T120 W119
    refine g_putF W119 dS3_23 (pc' := 26) rfl (hw _ (List.mem_of_getElem? (i := 62) rfl)) (((FC.ext E96).other w106 (Or.inr (Ne.symm hsl))).ext E113) (((E.ext E96).wr w106).ext E113) (Or.inr ⟨(hw _ (List.mem_of_getElem? (i := 63) rfl)), rfl, rfl⟩) (hw _ (List.mem_of_getElem? (i := 18) rfl)) (ty := .byte) (by decide) rfl rfl (by simp) (Or.inl (by simp)) ?_
    intro T121 h122 w123 W124
    have hne1 : b94 ≠ x := by
      obtain ⟨cl, A1, -⟩ := f100
      exact Ne.symm (ne_arr (E.ext E96) (hw _ (List.mem_of_getElem? (i := 18) rfl)) A1)
    exact g_return W124 dS3_26 rfl ⟨rfl, (((own_keep_ext E96).wr w106 (Or.inl (by simp))).ext E113).wr w123 (Or.inl (by simp)), (((E.ext E96).wr w106).ext E113).wr w123, fun c hc => (nomatch hc), b94, k95, 0, 0, [], ((((FV.ext E96).same w106).ext E113).other w123 (Or.inr hsl)), (((FC.ext E96).other w106 (Or.inr (Ne.symm hsl))).ext E113).same w123, ((f100.other w106 hne1).ext E113).other w123 hne1, Or.inl ⟨rfl, rfl, rfl, fun c hc => (nomatch hc)⟩⟩
  · skip
    have hnz : ¬ Int32.ofNat n = 0 := Jvm.Free.XT.nz32 (by omega) hn0
    refine g_ifY W90 dS3_5 (pc' := 27) (feq hnz).2 (by decide) (by decide) ?_
    refine g_getS W90 dS3_27 (pc' := 30) rfl (hw _ (List.mem_of_getElem? (i := 31) rfl)) (SC.ext O) ?_
    intro T126 W125
    refine g_ifN W125 dS3_30 (pc' := 33) (feq hz).1 rfl ?_
    refine g_aloadN W125 dS3_33 (pc' := 34) rfl rfl rfl ?_
    refine g_iloadN W125 dS3_34 (pc' := 35) rfl rfl ?_
    refine g_iloadN W125 dS3_35 (pc' := 36) rfl rfl ?_
    refine g_static W125 dS3_36 (pc' := 39) rfl (hw _ (List.mem_of_getElem? (i := 32) rfl)) (hw _ (List.mem_of_getElem? (i := 33) rfl)) (hw _ (List.mem_of_getElem? (i := 34) rfl)) (hw _ (List.mem_of_getElem? (i := 35) rfl)) (by decide) (con_cmp3 l Z a0 hw hEL b kC cs dv n h0 O SA SH SL hn hcap K hb) pd___CII__B (argsL := [(.ref b), (.int (0 : Int32)), (.int (Int32.ofNat n))]) (st := []) rfl rfl rfl rfl (by decide) (w := 0) (Nat.le_of_eq rfl) (by decide) (by decide) (by decide) (by simp) (fun q hq => nomatch hq) ?_
    intro v127 T128 h129 S132 q130 W133
    have W131 := W133.sf (SF' := [x]) (fun _ hx => List.mem_append_right _ hx)
    obtain ⟨t, kb, cd, N2, vs, rfl, X, nt, A, CA⟩ := q130
    refine g_astore W131 dS3_39 (pc' := 41) rfl (ls' := #[.val (.ref x), .val (.ref b), .val (.int (0 : Int32)), .val (.int (Int32.ofNat n)), .val .null, .val (.ref t)]) rfl rfl ?_
    refine g_aloadN W131 dS3_41 (pc' := 42) rfl rfl rfl ?_
    refine g_aload W131 dS3_42 (pc' := 44) rfl rfl rfl ?_
    refine g_iloadN W131 dS3_44 (pc' := 45) rfl rfl ?_
    refine g_static W131 dS3_45 (pc' := 48) rfl (hw _ (List.mem_of_getElem? (i := 59) rfl)) (hw _ (List.mem_of_getElem? (i := 60) rfl)) (hw _ (List.mem_of_getElem? (i := 34) rfl)) (hw _ (List.mem_of_getElem? (i := 61) rfl)) (by decide) (con_cod l Z a0 hw hEL t kb cs cd N2 vs _ n h129 hn hcap A CA) pd___BI_B (argsL := [(.ref t), (.int (Int32.ofNat n))]) (st := [(.ref x)]) rfl rfl rfl rfl (by decide) (w := 1) (Nat.le_of_eq rfl) (by decide) (by decide) (by decide) (by simp) (fun q hq => nomatch hq) ?_
    intro v134 T135 h136 S139 q137 W140
    have W138 := W140.sf (SF' := [x]) (fun _ hx => List.mem_append_right _ hx)
    obtain ⟨rfl, hcd, rfl⟩ := q137
    have hnx : t ≠ x := Nat.ne_of_gt (Nat.lt_of_lt_of_le E.lt nt)
    refine g_putF W138 dS3_48 (pc' := 51) rfl (hw _ (List.mem_of_getElem? (i := 62) rfl)) (FC.ext X) (E.ext X) (Or.inr ⟨(hw _ (List.mem_of_getElem? (i := 63) rfl)), rfl, rfl⟩) (hw _ (List.mem_of_getElem? (i := 18) rfl)) (ty := .byte) (by decide) (by rcases hcd with rfl | rfl <;> rfl) (by rcases hcd with rfl | rfl <;> rfl) (by simp) (Or.inl (by simp)) ?_
    intro T141 h142 w143 W144
    refine g_aloadN W144 dS3_51 (pc' := 52) rfl rfl rfl ?_
    refine g_aload W144 dS3_52 (pc' := 54) rfl rfl rfl ?_
    refine g_putF W144 dS3_54 (pc' := 57) rfl (hw _ (List.mem_of_getElem? (i := 64) rfl)) ((FV.ext X).other w143 (Or.inr hsl)) ((E.ext X).wr w143) (Or.inr ⟨(hw _ (List.mem_of_getElem? (i := 65) rfl)), rfl, rfl⟩) (hw _ (List.mem_of_getElem? (i := 18) rfl)) (ty := .array .byte) (by decide) rfl rfl (by simp) (Or.inl (by simp)) ?_
    intro T145 h146 w147 W148
    exact g_return W148 dS3_57 rfl ⟨rfl, ((own_keep_ext X).wr w143 (Or.inl (by simp))).wr w147 (Or.inl (by simp)), ((E.ext X).wr w143).wr w147, hb, t, kb, cd, N2, vs, ((FV.ext X).other w143 (Or.inr hsl)).same w147, ((FC.ext X).same w143).other w147 (Or.inr (Ne.symm hsl)), (A.other w143 hnx).other w147 hnx, CA⟩
set_option maxRecDepth 65536 in
set_option maxHeartbeats 4000000 in
theorem con_new1 (l : Launch) (Z : State) (a0 : Array Value) (hw : ∀ d ∈ tables_1, d.before a0 Z = true) (hEL : EW Z a0 consts_1) (x b : Addr) (kC : ClassId) (cs : List Int32) (dv v0 c0 : Value) (z : Int32) (n : Nat) (h0 : Heap) (O : Ext Z.heap h0) (SA : Sta Z Z.heap "java/lang/StringUTF16" "$assertionsDisabled" "Z" (.int 1)) (SH : Sta Z Z.heap "java/lang/StringUTF16" "HI_BYTE_SHIFT" "I" (.int 0)) (SL : Sta Z Z.heap "java/lang/StringUTF16" "LO_BYTE_SHIFT" "I" (.int 8)) (hx : Z.heap.size ≤ x) (hn : cs.length = n) (hcap : n ≤ 3) (E : Exa Z h0 x "java/lang/String") (FV : Fld Z h0 x "java/lang/String" "value" "[B" v0) (FC : Fld Z h0 x "java/lang/String" "coder" "B" c0) (K : Arv Z h0 b kC .char (Int32.ofNat n) (cs.map Value.int) dv) (hb : ∀ c ∈ cs, ¬ c < 0 ∧ ¬ (65535 : Int32) < c) (SC : Sta Z Z.heap "java/lang/String" "COMPACT_STRINGS" "Z" (.int z)) (hz : ¬ z = 0) :
    Ocon l Z consts_1 (⟨"java/lang/String", "<init>", "([C)V"⟩ : MethodName) jdk_42_method_3_code 2 none [] ({ frames := 5, cells := 4, slots := 17, locals := 74 } : Room) #[(.ref x), (.ref b)] h0 [x] [(⟨x, RoadKit.slotOf Z "java/lang/String" "coder" "B"⟩ : Loc), (⟨x, RoadKit.slotOf Z "java/lang/String" "value" "[B"⟩ : Loc)] (fun v h _ => v = none ∧ Keep h0 h [x] ∧ OStr Z h x cs) := by
  refine own_con (a0 := a0) hEL (plainFor_of_name pn_java_lang_String) ?_
  intro p e s m below meth c T hs W0
  have ef : entryFrame m #[(.ref x), (.ref b)] 2 = mkF m 0 #[.val (.ref x), .val (.ref b)] [] := own_entry m [(.ref x), (.ref b)] 2 (by simp [Value.category]) rfl
  rw [ef]
  refine g_aloadN W0 dS4_0 (pc' := 1) rfl rfl rfl ?_
  refine g_aloadN W0 dS4_1 (pc' := 2) rfl rfl rfl ?_
  refine g_iconst W0 dS4_2 (pc' := 3) rfl (v := 0) rfl ?_
  refine g_aloadN W0 dS4_3 (pc' := 4) rfl rfl rfl ?_
  refine g_alen W0 dS4_4 (pc' := 5) rfl K ?_
  refine g_aconst_null W0 dS4_5 (pc' := 6) rfl ?_
  refine g_special W0 dS4_6 (pc' := 9) rfl rfl (hw _ (List.mem_of_getElem? (i := 24) rfl)) (hw _ (List.mem_of_getElem? (i := 25) rfl)) (hw _ (List.mem_of_getElem? (i := 19) rfl)) (hw _ (List.mem_of_getElem? (i := 27) rfl)) (by decide) (con_new4 l Z a0 hw hEL x b kC cs dv v0 c0 z n h0 O SA SH SL hx hn hcap E FV FC K hb SC hz) pd___CIILjava_lang_Void__V (argsL := [(.ref b), (.int (0 : Int32)), (.int (Int32.ofNat n)), .null]) (st := []) rfl rfl rfl rfl (by decide) (w := 0) (Nat.le_of_eq rfl) (by decide) (by decide) (by decide) (by simp) (fun q hq => Or.inl hq) ?_
  intro v149 T150 h151 S154 q152 W155
  have W153 := W155.sf (SF' := [x]) (fun _ hx => List.mem_append_right _ hx)
  obtain ⟨rfl, qK, qS⟩ := q152
  exact g_return W153 dS4_9 rfl ⟨rfl, qK, qS⟩
theorem dP0_0 : decode method_3_code 0 = .ok (.iload_n 0, 1) := by decide +kernel
theorem dP0_1 : decode method_3_code 1 = .ok (.ldc 40, 2) := by decide +kernel
theorem dP0_3 : decode method_3_code 3 = .ok (.iand, 1) := by decide +kernel
theorem dP0_4 : decode method_3_code 4 = .ok (.bipush 9, 2) := by decide +kernel
theorem dP0_6 : decode method_3_code 6 = .ok (.irem, 1) := by decide +kernel
theorem dP0_7 : decode method_3_code 7 = .ok (.istore_n 1, 1) := by decide +kernel
theorem dP0_8 : decode method_3_code 8 = .ok (.iload_n 1, 1) := by decide +kernel
theorem dP0_9 : decode method_3_code 9 = .ok (.ifCond .ne 7, 3) := by decide +kernel
theorem dP0_12 : decode method_3_code 12 = .ok (.getstatic 30, 3) := by decide +kernel
theorem dP0_15 : decode method_3_code 15 = .ok (.areturn, 1) := by decide +kernel
theorem dP0_16 : decode method_3_code 16 = .ok (.iload_n 1, 1) := by decide +kernel
theorem dP0_17 : decode method_3_code 17 = .ok (.iconst 1, 1) := by decide +kernel
theorem dP0_18 : decode method_3_code 18 = .ok (.if_icmp .ne 7, 3) := by decide +kernel
theorem dP0_21 : decode method_3_code 21 = .ok (.getstatic 41, 3) := by decide +kernel
theorem dP0_24 : decode method_3_code 24 = .ok (.areturn, 1) := by decide +kernel
theorem dP0_25 : decode method_3_code 25 = .ok (.iload_n 1, 1) := by decide +kernel
theorem dP0_26 : decode method_3_code 26 = .ok (.iconst 2, 1) := by decide +kernel
theorem dP0_27 : decode method_3_code 27 = .ok (.if_icmp .ne 7, 3) := by decide +kernel
theorem dP0_30 : decode method_3_code 30 = .ok (.getstatic 44, 3) := by decide +kernel
theorem dP0_33 : decode method_3_code 33 = .ok (.areturn, 1) := by decide +kernel
theorem dP0_34 : decode method_3_code 34 = .ok (.iload_n 1, 1) := by decide +kernel
theorem dP0_35 : decode method_3_code 35 = .ok (.iconst 3, 1) := by decide +kernel
theorem dP0_36 : decode method_3_code 36 = .ok (.if_icmp .ne 7, 3) := by decide +kernel
theorem dP0_39 : decode method_3_code 39 = .ok (.getstatic 47, 3) := by decide +kernel
theorem dP0_42 : decode method_3_code 42 = .ok (.areturn, 1) := by decide +kernel
theorem dP0_43 : decode method_3_code 43 = .ok (.iload_n 1, 1) := by decide +kernel
theorem dP0_44 : decode method_3_code 44 = .ok (.iconst 4, 1) := by decide +kernel
theorem dP0_45 : decode method_3_code 45 = .ok (.if_icmp .ne 7, 3) := by decide +kernel
theorem dP0_48 : decode method_3_code 48 = .ok (.getstatic 50, 3) := by decide +kernel
theorem dP0_51 : decode method_3_code 51 = .ok (.areturn, 1) := by decide +kernel
theorem dP0_52 : decode method_3_code 52 = .ok (.iload_n 1, 1) := by decide +kernel
theorem dP0_53 : decode method_3_code 53 = .ok (.iconst 5, 1) := by decide +kernel
theorem dP0_54 : decode method_3_code 54 = .ok (.if_icmp .ne 7, 3) := by decide +kernel
theorem dP0_57 : decode method_3_code 57 = .ok (.getstatic 53, 3) := by decide +kernel
theorem dP0_60 : decode method_3_code 60 = .ok (.areturn, 1) := by decide +kernel
theorem dP0_61 : decode method_3_code 61 = .ok (.iload_n 1, 1) := by decide +kernel
theorem dP0_62 : decode method_3_code 62 = .ok (.bipush 6, 2) := by decide +kernel
theorem dP0_64 : decode method_3_code 64 = .ok (.if_icmp .ne 7, 3) := by decide +kernel
theorem dP0_67 : decode method_3_code 67 = .ok (.getstatic 56, 3) := by decide +kernel
theorem dP0_70 : decode method_3_code 70 = .ok (.areturn, 1) := by decide +kernel
theorem dP0_71 : decode method_3_code 71 = .ok (.iload_n 1, 1) := by decide +kernel
theorem dP0_72 : decode method_3_code 72 = .ok (.bipush 7, 2) := by decide +kernel
theorem dP0_74 : decode method_3_code 74 = .ok (.if_icmp .ne 7, 3) := by decide +kernel
theorem dP0_77 : decode method_3_code 77 = .ok (.getstatic 59, 3) := by decide +kernel
theorem dP0_80 : decode method_3_code 80 = .ok (.areturn, 1) := by decide +kernel
theorem dP0_81 : decode method_3_code 81 = .ok (.getstatic 62, 3) := by decide +kernel
theorem dP0_84 : decode method_3_code 84 = .ok (.areturn, 1) := by decide +kernel
theorem dP1_0 : decode method_4_code 0 = .ok (.iload_n 0, 1) := by decide +kernel
theorem dP1_1 : decode method_4_code 1 = .ok (.iconst 3, 1) := by decide +kernel
theorem dP1_2 : decode method_4_code 2 = .ok (.iand, 1) := by decide +kernel
theorem dP1_3 : decode method_4_code 3 = .ok (.istore_n 1, 1) := by decide +kernel
theorem dP1_4 : decode method_4_code 4 = .ok (.iload_n 0, 1) := by decide +kernel
theorem dP1_5 : decode method_4_code 5 = .ok (.iconst 2, 1) := by decide +kernel
theorem dP1_6 : decode method_4_code 6 = .ok (.iushr, 1) := by decide +kernel
theorem dP1_7 : decode method_4_code 7 = .ok (.sipush 255, 3) := by decide +kernel
theorem dP1_10 : decode method_4_code 10 = .ok (.iand, 1) := by decide +kernel
theorem dP1_11 : decode method_4_code 11 = .ok (.istore_n 2, 1) := by decide +kernel
theorem dP1_12 : decode method_4_code 12 = .ok (.iload_n 1, 1) := by decide +kernel
theorem dP1_13 : decode method_4_code 13 = .ok (.ifCond .ne 12, 3) := by decide +kernel
theorem dP1_16 : decode method_4_code 16 = .ok (.bipush 97, 2) := by decide +kernel
theorem dP1_18 : decode method_4_code 18 = .ok (.iload_n 2, 1) := by decide +kernel
theorem dP1_19 : decode method_4_code 19 = .ok (.bipush 26, 2) := by decide +kernel
theorem dP1_21 : decode method_4_code 21 = .ok (.irem, 1) := by decide +kernel
theorem dP1_22 : decode method_4_code 22 = .ok (.iadd, 1) := by decide +kernel
theorem dP1_23 : decode method_4_code 23 = .ok (.i2c, 1) := by decide +kernel
theorem dP1_24 : decode method_4_code 24 = .ok (.ireturn, 1) := by decide +kernel
theorem dP1_25 : decode method_4_code 25 = .ok (.iload_n 1, 1) := by decide +kernel
theorem dP1_26 : decode method_4_code 26 = .ok (.iconst 1, 1) := by decide +kernel
theorem dP1_27 : decode method_4_code 27 = .ok (.if_icmp .ne 12, 3) := by decide +kernel
theorem dP1_30 : decode method_4_code 30 = .ok (.bipush 65, 2) := by decide +kernel
theorem dP1_32 : decode method_4_code 32 = .ok (.iload_n 2, 1) := by decide +kernel
theorem dP1_33 : decode method_4_code 33 = .ok (.bipush 26, 2) := by decide +kernel
theorem dP1_35 : decode method_4_code 35 = .ok (.irem, 1) := by decide +kernel
theorem dP1_36 : decode method_4_code 36 = .ok (.iadd, 1) := by decide +kernel
theorem dP1_37 : decode method_4_code 37 = .ok (.i2c, 1) := by decide +kernel
theorem dP1_38 : decode method_4_code 38 = .ok (.ireturn, 1) := by decide +kernel
theorem dP1_39 : decode method_4_code 39 = .ok (.iload_n 1, 1) := by decide +kernel
theorem dP1_40 : decode method_4_code 40 = .ok (.iconst 2, 1) := by decide +kernel
theorem dP1_41 : decode method_4_code 41 = .ok (.if_icmp .ne 6, 3) := by decide +kernel
theorem dP1_44 : decode method_4_code 44 = .ok (.iload_n 2, 1) := by decide +kernel
theorem dP1_45 : decode method_4_code 45 = .ok (.i2c, 1) := by decide +kernel
theorem dP1_46 : decode method_4_code 46 = .ok (.ireturn, 1) := by decide +kernel
theorem dP1_47 : decode method_4_code 47 = .ok (.sipush 256, 3) := by decide +kernel
theorem dP1_50 : decode method_4_code 50 = .ok (.iload_n 2, 1) := by decide +kernel
theorem dP1_51 : decode method_4_code 51 = .ok (.iadd, 1) := by decide +kernel
theorem dP1_52 : decode method_4_code 52 = .ok (.i2c, 1) := by decide +kernel
theorem dP1_53 : decode method_4_code 53 = .ok (.ireturn, 1) := by decide +kernel
theorem dP2_0 : decode method_5_code 0 = .ok (.iload_n 0, 1) := by decide +kernel
theorem dP2_1 : decode method_5_code 1 = .ok (.bipush 97, 2) := by decide +kernel
theorem dP2_3 : decode method_5_code 3 = .ok (.if_icmp .lt 15, 3) := by decide +kernel
theorem dP2_6 : decode method_5_code 6 = .ok (.iload_n 0, 1) := by decide +kernel
theorem dP2_7 : decode method_5_code 7 = .ok (.bipush 122, 2) := by decide +kernel
theorem dP2_9 : decode method_5_code 9 = .ok (.if_icmp .gt 9, 3) := by decide +kernel
theorem dP2_12 : decode method_5_code 12 = .ok (.iload_n 0, 1) := by decide +kernel
theorem dP2_13 : decode method_5_code 13 = .ok (.bipush 32, 2) := by decide +kernel
theorem dP2_15 : decode method_5_code 15 = .ok (.isub, 1) := by decide +kernel
theorem dP2_16 : decode method_5_code 16 = .ok (.i2c, 1) := by decide +kernel
theorem dP2_17 : decode method_5_code 17 = .ok (.ireturn, 1) := by decide +kernel
theorem dP2_18 : decode method_5_code 18 = .ok (.iload_n 0, 1) := by decide +kernel
theorem dP2_19 : decode method_5_code 19 = .ok (.ireturn, 1) := by decide +kernel
theorem dP3_0 : decode method_6_code 0 = .ok (.iload_n 0, 1) := by decide +kernel
theorem dP3_1 : decode method_6_code 1 = .ok (.ifCond .ne 14, 3) := by decide +kernel
theorem dP3_4 : decode method_6_code 4 = .ok (.new 65, 3) := by decide +kernel
theorem dP3_7 : decode method_6_code 7 = .ok (.dup, 1) := by decide +kernel
theorem dP3_8 : decode method_6_code 8 = .ok (.iconst 0, 1) := by decide +kernel
theorem dP3_9 : decode method_6_code 9 = .ok (.newarray .char, 2) := by decide +kernel
theorem dP3_11 : decode method_6_code 11 = .ok (.invokespecial 67, 3) := by decide +kernel
theorem dP3_14 : decode method_6_code 14 = .ok (.areturn, 1) := by decide +kernel
theorem dP3_15 : decode method_6_code 15 = .ok (.iload_n 0, 1) := by decide +kernel
theorem dP3_16 : decode method_6_code 16 = .ok (.iconst 1, 1) := by decide +kernel
theorem dP3_17 : decode method_6_code 17 = .ok (.if_icmp .ne 18, 3) := by decide +kernel
theorem dP3_20 : decode method_6_code 20 = .ok (.new 65, 3) := by decide +kernel
theorem dP3_23 : decode method_6_code 23 = .ok (.dup, 1) := by decide +kernel
theorem dP3_24 : decode method_6_code 24 = .ok (.iconst 1, 1) := by decide +kernel
theorem dP3_25 : decode method_6_code 25 = .ok (.newarray .char, 2) := by decide +kernel
theorem dP3_27 : decode method_6_code 27 = .ok (.dup, 1) := by decide +kernel
theorem dP3_28 : decode method_6_code 28 = .ok (.iconst 0, 1) := by decide +kernel
theorem dP3_29 : decode method_6_code 29 = .ok (.iload_n 1, 1) := by decide +kernel
theorem dP3_30 : decode method_6_code 30 = .ok (.castore, 1) := by decide +kernel
theorem dP3_31 : decode method_6_code 31 = .ok (.invokespecial 67, 3) := by decide +kernel
theorem dP3_34 : decode method_6_code 34 = .ok (.areturn, 1) := by decide +kernel
theorem dP3_35 : decode method_6_code 35 = .ok (.iload_n 0, 1) := by decide +kernel
theorem dP3_36 : decode method_6_code 36 = .ok (.iconst 2, 1) := by decide +kernel
theorem dP3_37 : decode method_6_code 37 = .ok (.if_icmp .ne 22, 3) := by decide +kernel
theorem dP3_40 : decode method_6_code 40 = .ok (.new 65, 3) := by decide +kernel
theorem dP3_43 : decode method_6_code 43 = .ok (.dup, 1) := by decide +kernel
theorem dP3_44 : decode method_6_code 44 = .ok (.iconst 2, 1) := by decide +kernel
theorem dP3_45 : decode method_6_code 45 = .ok (.newarray .char, 2) := by decide +kernel
theorem dP3_47 : decode method_6_code 47 = .ok (.dup, 1) := by decide +kernel
theorem dP3_48 : decode method_6_code 48 = .ok (.iconst 0, 1) := by decide +kernel
theorem dP3_49 : decode method_6_code 49 = .ok (.iload_n 1, 1) := by decide +kernel
theorem dP3_50 : decode method_6_code 50 = .ok (.castore, 1) := by decide +kernel
theorem dP3_51 : decode method_6_code 51 = .ok (.dup, 1) := by decide +kernel
theorem dP3_52 : decode method_6_code 52 = .ok (.iconst 1, 1) := by decide +kernel
theorem dP3_53 : decode method_6_code 53 = .ok (.iload_n 2, 1) := by decide +kernel
theorem dP3_54 : decode method_6_code 54 = .ok (.castore, 1) := by decide +kernel
theorem dP3_55 : decode method_6_code 55 = .ok (.invokespecial 67, 3) := by decide +kernel
theorem dP3_58 : decode method_6_code 58 = .ok (.areturn, 1) := by decide +kernel
theorem dP3_59 : decode method_6_code 59 = .ok (.new 65, 3) := by decide +kernel
theorem dP3_62 : decode method_6_code 62 = .ok (.dup, 1) := by decide +kernel
theorem dP3_63 : decode method_6_code 63 = .ok (.iconst 3, 1) := by decide +kernel
theorem dP3_64 : decode method_6_code 64 = .ok (.newarray .char, 2) := by decide +kernel
theorem dP3_66 : decode method_6_code 66 = .ok (.dup, 1) := by decide +kernel
theorem dP3_67 : decode method_6_code 67 = .ok (.iconst 0, 1) := by decide +kernel
theorem dP3_68 : decode method_6_code 68 = .ok (.iload_n 1, 1) := by decide +kernel
theorem dP3_69 : decode method_6_code 69 = .ok (.castore, 1) := by decide +kernel
theorem dP3_70 : decode method_6_code 70 = .ok (.dup, 1) := by decide +kernel
theorem dP3_71 : decode method_6_code 71 = .ok (.iconst 1, 1) := by decide +kernel
theorem dP3_72 : decode method_6_code 72 = .ok (.iload_n 2, 1) := by decide +kernel
theorem dP3_73 : decode method_6_code 73 = .ok (.castore, 1) := by decide +kernel
theorem dP3_74 : decode method_6_code 74 = .ok (.dup, 1) := by decide +kernel
theorem dP3_75 : decode method_6_code 75 = .ok (.iconst 2, 1) := by decide +kernel
theorem dP3_76 : decode method_6_code 76 = .ok (.iload_n 3, 1) := by decide +kernel
theorem dP3_77 : decode method_6_code 77 = .ok (.castore, 1) := by decide +kernel
theorem dP3_78 : decode method_6_code 78 = .ok (.invokespecial 67, 3) := by decide +kernel
theorem dP3_81 : decode method_6_code 81 = .ok (.areturn, 1) := by decide +kernel
theorem dP4_0 : decode prog_8_method_1_code 0 = .ok (.aload_n 0, 1) := by decide +kernel
theorem dP4_1 : decode prog_8_method_1_code 1 = .ok (.invokespecial 1, 3) := by decide +kernel
theorem dP4_4 : decode prog_8_method_1_code 4 = .ok (.aload_n 0, 1) := by decide +kernel
theorem dP4_5 : decode prog_8_method_1_code 5 = .ok (.aload_n 1, 1) := by decide +kernel
theorem dP4_6 : decode prog_8_method_1_code 6 = .ok (.putfield 7, 3) := by decide +kernel
theorem dP4_9 : decode prog_8_method_1_code 9 = .ok (.aload_n 0, 1) := by decide +kernel
theorem dP4_10 : decode prog_8_method_1_code 10 = .ok (.aload_n 2, 1) := by decide +kernel
theorem dP4_11 : decode prog_8_method_1_code 11 = .ok (.putfield 13, 3) := by decide +kernel
theorem dP4_14 : decode prog_8_method_1_code 14 = .ok (.aload_n 0, 1) := by decide +kernel
theorem dP4_15 : decode prog_8_method_1_code 15 = .ok (.aload_n 1, 1) := by decide +kernel
theorem dP4_16 : decode prog_8_method_1_code 16 = .ok (.getstatic 17, 3) := by decide +kernel
theorem dP4_19 : decode prog_8_method_1_code 19 = .ok (.if_acmp .ne 10, 3) := by decide +kernel
theorem dP4_22 : decode prog_8_method_1_code 22 = .ok (.aload_n 2, 1) := by decide +kernel
theorem dP4_23 : decode prog_8_method_1_code 23 = .ok (.invokestatic 22, 3) := by decide +kernel
theorem dP4_26 : decode prog_8_method_1_code 26 = .ok (.goto 4, 3) := by decide +kernel
theorem dP4_29 : decode prog_8_method_1_code 29 = .ok (.aload_n 2, 1) := by decide +kernel
theorem dP4_30 : decode prog_8_method_1_code 30 = .ok (.putfield 26, 3) := by decide +kernel
theorem dP4_33 : decode prog_8_method_1_code 33 = .ok (.aload_n 0, 1) := by decide +kernel
theorem dP4_34 : decode prog_8_method_1_code 34 = .ok (.aload_n 3, 1) := by decide +kernel
theorem dP4_35 : decode prog_8_method_1_code 35 = .ok (.putfield 29, 3) := by decide +kernel
theorem dP4_38 : decode prog_8_method_1_code 38 = .ok (.aload_n 0, 1) := by decide +kernel
theorem dP4_39 : decode prog_8_method_1_code 39 = .ok (.iload 4, 2) := by decide +kernel
theorem dP4_41 : decode prog_8_method_1_code 41 = .ok (.putfield 33, 3) := by decide +kernel
theorem dP4_44 : decode prog_8_method_1_code 44 = .ok (.return_, 1) := by decide +kernel
theorem dP5_0 : decode prog_8_method_10_code 0 = .ok (.aload_n 0, 1) := by decide +kernel
theorem dP5_1 : decode prog_8_method_10_code 1 = .ok (.invokevirtual 55, 3) := by decide +kernel
theorem dP5_4 : decode prog_8_method_10_code 4 = .ok (.astore_n 1, 1) := by decide +kernel
theorem dP5_5 : decode prog_8_method_10_code 5 = .ok (.iconst 0, 1) := by decide +kernel
theorem dP5_6 : decode prog_8_method_10_code 6 = .ok (.istore_n 2, 1) := by decide +kernel
theorem dP5_7 : decode prog_8_method_10_code 7 = .ok (.iload_n 2, 1) := by decide +kernel
theorem dP5_8 : decode prog_8_method_10_code 8 = .ok (.aload_n 1, 1) := by decide +kernel
theorem dP5_9 : decode prog_8_method_10_code 9 = .ok (.arraylength, 1) := by decide +kernel
theorem dP5_10 : decode prog_8_method_10_code 10 = .ok (.if_icmp .ge 38, 3) := by decide +kernel
theorem dP5_13 : decode prog_8_method_10_code 13 = .ok (.aload_n 1, 1) := by decide +kernel
theorem dP5_14 : decode prog_8_method_10_code 14 = .ok (.iload_n 2, 1) := by decide +kernel
theorem dP5_15 : decode prog_8_method_10_code 15 = .ok (.caload, 1) := by decide +kernel
theorem dP5_16 : decode prog_8_method_10_code 16 = .ok (.bipush 97, 2) := by decide +kernel
theorem dP5_18 : decode prog_8_method_10_code 18 = .ok (.if_icmp .lt 24, 3) := by decide +kernel
theorem dP5_21 : decode prog_8_method_10_code 21 = .ok (.aload_n 1, 1) := by decide +kernel
theorem dP5_22 : decode prog_8_method_10_code 22 = .ok (.iload_n 2, 1) := by decide +kernel
theorem dP5_23 : decode prog_8_method_10_code 23 = .ok (.caload, 1) := by decide +kernel
theorem dP5_24 : decode prog_8_method_10_code 24 = .ok (.bipush 122, 2) := by decide +kernel
theorem dP5_26 : decode prog_8_method_10_code 26 = .ok (.if_icmp .gt 16, 3) := by decide +kernel
theorem dP5_29 : decode prog_8_method_10_code 29 = .ok (.aload_n 1, 1) := by decide +kernel
theorem dP5_30 : decode prog_8_method_10_code 30 = .ok (.iload_n 2, 1) := by decide +kernel
theorem dP5_31 : decode prog_8_method_10_code 31 = .ok (.aload_n 1, 1) := by decide +kernel
theorem dP5_32 : decode prog_8_method_10_code 32 = .ok (.iload_n 2, 1) := by decide +kernel
theorem dP5_33 : decode prog_8_method_10_code 33 = .ok (.caload, 1) := by decide +kernel
theorem dP5_34 : decode prog_8_method_10_code 34 = .ok (.bipush 97, 2) := by decide +kernel
theorem dP5_36 : decode prog_8_method_10_code 36 = .ok (.isub, 1) := by decide +kernel
theorem dP5_37 : decode prog_8_method_10_code 37 = .ok (.bipush 65, 2) := by decide +kernel
theorem dP5_39 : decode prog_8_method_10_code 39 = .ok (.iadd, 1) := by decide +kernel
theorem dP5_40 : decode prog_8_method_10_code 40 = .ok (.i2c, 1) := by decide +kernel
theorem dP5_41 : decode prog_8_method_10_code 41 = .ok (.castore, 1) := by decide +kernel
theorem dP5_42 : decode prog_8_method_10_code 42 = .ok (.iinc 2 1, 3) := by decide +kernel
theorem dP5_45 : decode prog_8_method_10_code 45 = .ok (.goto (-38), 3) := by decide +kernel
theorem dP5_48 : decode prog_8_method_10_code 48 = .ok (.new 38, 3) := by decide +kernel
theorem dP5_51 : decode prog_8_method_10_code 51 = .ok (.dup, 1) := by decide +kernel
theorem dP5_52 : decode prog_8_method_10_code 52 = .ok (.aload_n 1, 1) := by decide +kernel
theorem dP5_53 : decode prog_8_method_10_code 53 = .ok (.invokespecial 59, 3) := by decide +kernel
theorem dP5_56 : decode prog_8_method_10_code 56 = .ok (.areturn, 1) := by decide +kernel
theorem dP6_0 : decode prog_8_method_6_code 0 = .ok (.aload_n 0, 1) := by decide +kernel
theorem dP6_1 : decode prog_8_method_6_code 1 = .ok (.getfield 7, 3) := by decide +kernel
theorem dP6_4 : decode prog_8_method_6_code 4 = .ok (.getstatic 17, 3) := by decide +kernel
theorem dP6_7 : decode prog_8_method_6_code 7 = .ok (.if_acmp .ne 18, 3) := by decide +kernel
theorem dP6_10 : decode prog_8_method_6_code 10 = .ok (.aload_n 0, 1) := by decide +kernel
theorem dP6_11 : decode prog_8_method_6_code 11 = .ok (.getfield 26, 3) := by decide +kernel
theorem dP6_14 : decode prog_8_method_6_code 14 = .ok (.aload_n 1, 1) := by decide +kernel
theorem dP6_15 : decode prog_8_method_6_code 15 = .ok (.invokevirtual 37, 3) := by decide +kernel
theorem dP6_18 : decode prog_8_method_6_code 18 = .ok (.ifCond .eq 7, 3) := by decide +kernel
theorem dP6_21 : decode prog_8_method_6_code 21 = .ok (.iconst 1, 1) := by decide +kernel
theorem dP6_22 : decode prog_8_method_6_code 22 = .ok (.goto 4, 3) := by decide +kernel
theorem dP6_25 : decode prog_8_method_6_code 25 = .ok (.iconst 0, 1) := by decide +kernel
theorem dP6_26 : decode prog_8_method_6_code 26 = .ok (.ireturn, 1) := by decide +kernel
theorem dP7_0 : decode jdk_42_method_129_code 0 = .ok (.aload_n 0, 1) := by decide +kernel
theorem dP7_1 : decode jdk_42_method_129_code 1 = .ok (.invokevirtual 492, 3) := by decide +kernel
theorem dP7_4 : decode jdk_42_method_129_code 4 = .ok (.ifCond .eq 13, 3) := by decide +kernel
theorem dP7_7 : decode jdk_42_method_129_code 7 = .ok (.aload_n 0, 1) := by decide +kernel
theorem dP7_8 : decode jdk_42_method_129_code 8 = .ok (.getfield 9, 3) := by decide +kernel
theorem dP7_11 : decode jdk_42_method_129_code 11 = .ok (.invokestatic 299, 3) := by decide +kernel
theorem dP7_14 : decode jdk_42_method_129_code 14 = .ok (.goto 10, 3) := by decide +kernel
theorem dP7_17 : decode jdk_42_method_129_code 17 = .ok (.aload_n 0, 1) := by decide +kernel
theorem dP7_18 : decode jdk_42_method_129_code 18 = .ok (.getfield 9, 3) := by decide +kernel
theorem dP7_21 : decode jdk_42_method_129_code 21 = .ok (.invokestatic 303, 3) := by decide +kernel
theorem dP7_24 : decode jdk_42_method_129_code 24 = .ok (.areturn, 1) := by decide +kernel
theorem dP8_0 : decode jdk_52_method_13_code 0 = .ok (.aload_n 0, 1) := by decide +kernel
theorem dP8_1 : decode jdk_52_method_13_code 1 = .ok (.arraylength, 1) := by decide +kernel
theorem dP8_2 : decode jdk_52_method_13_code 2 = .ok (.iconst 1, 1) := by decide +kernel
theorem dP8_3 : decode jdk_52_method_13_code 3 = .ok (.ishr, 1) := by decide +kernel
theorem dP8_4 : decode jdk_52_method_13_code 4 = .ok (.newarray .char, 2) := by decide +kernel
theorem dP8_6 : decode jdk_52_method_13_code 6 = .ok (.astore_n 1, 1) := by decide +kernel
theorem dP8_7 : decode jdk_52_method_13_code 7 = .ok (.aload_n 0, 1) := by decide +kernel
theorem dP8_8 : decode jdk_52_method_13_code 8 = .ok (.iconst 0, 1) := by decide +kernel
theorem dP8_9 : decode jdk_52_method_13_code 9 = .ok (.aload_n 1, 1) := by decide +kernel
theorem dP8_10 : decode jdk_52_method_13_code 10 = .ok (.arraylength, 1) := by decide +kernel
theorem dP8_11 : decode jdk_52_method_13_code 11 = .ok (.aload_n 1, 1) := by decide +kernel
theorem dP8_12 : decode jdk_52_method_13_code 12 = .ok (.iconst 0, 1) := by decide +kernel
theorem dP8_13 : decode jdk_52_method_13_code 13 = .ok (.invokestatic 103, 3) := by decide +kernel
theorem dP8_16 : decode jdk_52_method_13_code 16 = .ok (.aload_n 1, 1) := by decide +kernel
theorem dP8_17 : decode jdk_52_method_13_code 17 = .ok (.areturn, 1) := by decide +kernel
theorem dP9_0 : decode jdk_52_method_26_code 0 = .ok (.iload_n 1, 1) := by decide +kernel
theorem dP9_1 : decode jdk_52_method_26_code 1 = .ok (.iload_n 2, 1) := by decide +kernel
theorem dP9_2 : decode jdk_52_method_26_code 2 = .ok (.if_icmp .ge 11, 3) := by decide +kernel
theorem dP9_5 : decode jdk_52_method_26_code 5 = .ok (.iload_n 1, 1) := by decide +kernel
theorem dP9_6 : decode jdk_52_method_26_code 6 = .ok (.iload_n 2, 1) := by decide +kernel
theorem dP9_7 : decode jdk_52_method_26_code 7 = .ok (.iload_n 1, 1) := by decide +kernel
theorem dP9_8 : decode jdk_52_method_26_code 8 = .ok (.isub, 1) := by decide +kernel
theorem dP9_9 : decode jdk_52_method_26_code 9 = .ok (.aload_n 0, 1) := by decide +kernel
theorem dP9_10 : decode jdk_52_method_26_code 10 = .ok (.invokestatic 173, 3) := by decide +kernel
theorem dP9_13 : decode jdk_52_method_26_code 13 = .ok (.iload_n 1, 1) := by decide +kernel
theorem dP9_14 : decode jdk_52_method_26_code 14 = .ok (.istore 5, 2) := by decide +kernel
theorem dP9_16 : decode jdk_52_method_26_code 16 = .ok (.iload 5, 2) := by decide +kernel
theorem dP9_18 : decode jdk_52_method_26_code 18 = .ok (.iload_n 2, 1) := by decide +kernel
theorem dP9_19 : decode jdk_52_method_26_code 19 = .ok (.if_icmp .ge 22, 3) := by decide +kernel
theorem dP9_22 : decode jdk_52_method_26_code 22 = .ok (.aload_n 3, 1) := by decide +kernel
theorem dP9_23 : decode jdk_52_method_26_code 23 = .ok (.iload 4, 2) := by decide +kernel
theorem dP9_25 : decode jdk_52_method_26_code 25 = .ok (.iinc 4 1, 3) := by decide +kernel
theorem dP9_28 : decode jdk_52_method_26_code 28 = .ok (.aload_n 0, 1) := by decide +kernel
theorem dP9_29 : decode jdk_52_method_26_code 29 = .ok (.iload 5, 2) := by decide +kernel
theorem dP9_31 : decode jdk_52_method_26_code 31 = .ok (.invokestatic 71, 3) := by decide +kernel
theorem dP9_34 : decode jdk_52_method_26_code 34 = .ok (.castore, 1) := by decide +kernel
theorem dP9_35 : decode jdk_52_method_26_code 35 = .ok (.iinc 5 1, 3) := by decide +kernel
theorem dP9_38 : decode jdk_52_method_26_code 38 = .ok (.goto (-22), 3) := by decide +kernel
theorem dP9_41 : decode jdk_52_method_26_code 41 = .ok (.return_, 1) := by decide +kernel
theorem dP10_0 : decode jdk_52_method_94_code 0 = .ok (.iload_n 0, 1) := by decide +kernel
theorem dP10_1 : decode jdk_52_method_94_code 1 = .ok (.iload_n 1, 1) := by decide +kernel
theorem dP10_2 : decode jdk_52_method_94_code 2 = .ok (.aload_n 2, 1) := by decide +kernel
theorem dP10_3 : decode jdk_52_method_94_code 3 = .ok (.invokestatic 48, 3) := by decide +kernel
theorem dP10_6 : decode jdk_52_method_94_code 6 = .ok (.invokestatic 419, 3) := by decide +kernel
theorem dP10_9 : decode jdk_52_method_94_code 9 = .ok (.pop, 1) := by decide +kernel
theorem dP10_10 : decode jdk_52_method_94_code 10 = .ok (.return_, 1) := by decide +kernel
theorem dP11_0 : decode jdk_42_method_157_code 0 = .ok (.iload_n 0, 1) := by decide +kernel
theorem dP11_1 : decode jdk_42_method_157_code 1 = .ok (.iload_n 1, 1) := by decide +kernel
theorem dP11_2 : decode jdk_42_method_157_code 2 = .ok (.iload_n 2, 1) := by decide +kernel
theorem dP11_3 : decode jdk_42_method_157_code 3 = .ok (.getstatic 1053, 3) := by decide +kernel
theorem dP11_6 : decode jdk_42_method_157_code 6 = .ok (.invokestatic 1065, 3) := by decide +kernel
theorem dP11_9 : decode jdk_42_method_157_code 9 = .ok (.ireturn, 1) := by decide +kernel
theorem dP12_0 : decode jdk_41_method_13_code 0 = .ok (.iload_n 2, 1) := by decide +kernel
theorem dP12_1 : decode jdk_41_method_13_code 1 = .ok (.iload_n 0, 1) := by decide +kernel
theorem dP12_2 : decode jdk_41_method_13_code 2 = .ok (.ior, 1) := by decide +kernel
theorem dP12_3 : decode jdk_41_method_13_code 3 = .ok (.iload_n 1, 1) := by decide +kernel
theorem dP12_4 : decode jdk_41_method_13_code 4 = .ok (.ior, 1) := by decide +kernel
theorem dP12_5 : decode jdk_41_method_13_code 5 = .ok (.ifCond .lt 10, 3) := by decide +kernel
theorem dP12_8 : decode jdk_41_method_13_code 8 = .ok (.iload_n 1, 1) := by decide +kernel
theorem dP12_9 : decode jdk_41_method_13_code 9 = .ok (.iload_n 2, 1) := by decide +kernel
theorem dP12_10 : decode jdk_41_method_13_code 10 = .ok (.iload_n 0, 1) := by decide +kernel
theorem dP12_11 : decode jdk_41_method_13_code 11 = .ok (.isub, 1) := by decide +kernel
theorem dP12_12 : decode jdk_41_method_13_code 12 = .ok (.if_icmp .le 11, 3) := by decide +kernel
theorem dP12_15 : decode jdk_41_method_13_code 15 = .ok (.aload_n 3, 1) := by decide +kernel
theorem dP12_16 : decode jdk_41_method_13_code 16 = .ok (.iload_n 0, 1) := by decide +kernel
theorem dP12_17 : decode jdk_41_method_13_code 17 = .ok (.iload_n 1, 1) := by decide +kernel
theorem dP12_18 : decode jdk_41_method_13_code 18 = .ok (.iload_n 2, 1) := by decide +kernel
theorem dP12_19 : decode jdk_41_method_13_code 19 = .ok (.invokestatic 103, 3) := by decide +kernel
theorem dP12_22 : decode jdk_41_method_13_code 22 = .ok (.athrow, 1) := by decide +kernel
theorem dP12_23 : decode jdk_41_method_13_code 23 = .ok (.iload_n 0, 1) := by decide +kernel
theorem dP12_24 : decode jdk_41_method_13_code 24 = .ok (.ireturn, 1) := by decide +kernel
theorem dP13_0 : decode jdk_43_method_9_code 0 = .ok (.aload_n 0, 1) := by decide +kernel
theorem dP13_1 : decode jdk_43_method_9_code 1 = .ok (.arraylength, 1) := by decide +kernel
theorem dP13_2 : decode jdk_43_method_9_code 2 = .ok (.newarray .char, 2) := by decide +kernel
theorem dP13_4 : decode jdk_43_method_9_code 4 = .ok (.astore_n 1, 1) := by decide +kernel
theorem dP13_5 : decode jdk_43_method_9_code 5 = .ok (.aload_n 0, 1) := by decide +kernel
theorem dP13_6 : decode jdk_43_method_9_code 6 = .ok (.iconst 0, 1) := by decide +kernel
theorem dP13_7 : decode jdk_43_method_9_code 7 = .ok (.aload_n 1, 1) := by decide +kernel
theorem dP13_8 : decode jdk_43_method_9_code 8 = .ok (.iconst 0, 1) := by decide +kernel
theorem dP13_9 : decode jdk_43_method_9_code 9 = .ok (.aload_n 0, 1) := by decide +kernel
theorem dP13_10 : decode jdk_43_method_9_code 10 = .ok (.arraylength, 1) := by decide +kernel
theorem dP13_11 : decode jdk_43_method_9_code 11 = .ok (.invokestatic 13, 3) := by decide +kernel
theorem dP13_14 : decode jdk_43_method_9_code 14 = .ok (.aload_n 1, 1) := by decide +kernel
theorem dP13_15 : decode jdk_43_method_9_code 15 = .ok (.areturn, 1) := by decide +kernel
theorem dP14_0 : decode jdk_43_method_49_code 0 = .ok (.iconst 0, 1) := by decide +kernel
theorem dP14_1 : decode jdk_43_method_49_code 1 = .ok (.istore 5, 2) := by decide +kernel
theorem dP14_3 : decode jdk_43_method_49_code 3 = .ok (.iload 5, 2) := by decide +kernel
theorem dP14_5 : decode jdk_43_method_49_code 5 = .ok (.iload 4, 2) := by decide +kernel
theorem dP14_7 : decode jdk_43_method_49_code 7 = .ok (.if_icmp .ge 26, 3) := by decide +kernel
theorem dP14_10 : decode jdk_43_method_49_code 10 = .ok (.aload_n 2, 1) := by decide +kernel
theorem dP14_11 : decode jdk_43_method_49_code 11 = .ok (.iload_n 3, 1) := by decide +kernel
theorem dP14_12 : decode jdk_43_method_49_code 12 = .ok (.iinc 3 1, 3) := by decide +kernel
theorem dP14_15 : decode jdk_43_method_49_code 15 = .ok (.aload_n 0, 1) := by decide +kernel
theorem dP14_16 : decode jdk_43_method_49_code 16 = .ok (.iload_n 1, 1) := by decide +kernel
theorem dP14_17 : decode jdk_43_method_49_code 17 = .ok (.iinc 1 1, 3) := by decide +kernel
theorem dP14_20 : decode jdk_43_method_49_code 20 = .ok (.baload, 1) := by decide +kernel
theorem dP14_21 : decode jdk_43_method_49_code 21 = .ok (.sipush 255, 3) := by decide +kernel
theorem dP14_24 : decode jdk_43_method_49_code 24 = .ok (.iand, 1) := by decide +kernel
theorem dP14_25 : decode jdk_43_method_49_code 25 = .ok (.i2c, 1) := by decide +kernel
theorem dP14_26 : decode jdk_43_method_49_code 26 = .ok (.castore, 1) := by decide +kernel
theorem dP14_27 : decode jdk_43_method_49_code 27 = .ok (.iinc 5 1, 3) := by decide +kernel
theorem dP14_30 : decode jdk_43_method_49_code 30 = .ok (.goto (-27), 3) := by decide +kernel
theorem dP14_33 : decode jdk_43_method_49_code 33 = .ok (.return_, 1) := by decide +kernel
theorem dP15_0 : decode jdk_52_method_6_code 0 = .ok (.aload_n 0, 1) := by decide +kernel
theorem dP15_1 : decode jdk_52_method_6_code 1 = .ok (.arraylength, 1) := by decide +kernel
theorem dP15_2 : decode jdk_52_method_6_code 2 = .ok (.iconst 1, 1) := by decide +kernel
theorem dP15_3 : decode jdk_52_method_6_code 3 = .ok (.ishr, 1) := by decide +kernel
theorem dP15_4 : decode jdk_52_method_6_code 4 = .ok (.ireturn, 1) := by decide +kernel
theorem dP16_0 : decode jdk_42_method_154_code 0 = .ok (.getstatic 38, 3) := by decide +kernel
theorem dP16_3 : decode jdk_42_method_154_code 3 = .ok (.ifCond .eq 14, 3) := by decide +kernel
theorem dP16_6 : decode jdk_42_method_154_code 6 = .ok (.aload_n 0, 1) := by decide +kernel
theorem dP16_7 : decode jdk_42_method_154_code 7 = .ok (.getfield 15, 3) := by decide +kernel
theorem dP16_10 : decode jdk_42_method_154_code 10 = .ok (.ifCond .ne 7, 3) := by decide +kernel
theorem dP16_13 : decode jdk_42_method_154_code 13 = .ok (.iconst 1, 1) := by decide +kernel
theorem dP16_14 : decode jdk_42_method_154_code 14 = .ok (.goto 4, 3) := by decide +kernel
theorem dP16_17 : decode jdk_42_method_154_code 17 = .ok (.iconst 0, 1) := by decide +kernel
theorem dP16_18 : decode jdk_42_method_154_code 18 = .ok (.ireturn, 1) := by decide +kernel
theorem dP17_0 : decode jdk_42_method_66_code 0 = .ok (.aload_n 0, 1) := by decide +kernel
theorem dP17_1 : decode jdk_42_method_66_code 1 = .ok (.aload_n 1, 1) := by decide +kernel
theorem dP17_2 : decode jdk_42_method_66_code 2 = .ok (.if_acmp .ne 5, 3) := by decide +kernel
theorem dP17_5 : decode jdk_42_method_66_code 5 = .ok (.iconst 1, 1) := by decide +kernel
theorem dP17_6 : decode jdk_42_method_66_code 6 = .ok (.ireturn, 1) := by decide +kernel
theorem dP17_7 : decode jdk_42_method_66_code 7 = .ok (.aload_n 1, 1) := by decide +kernel
theorem dP17_8 : decode jdk_42_method_66_code 8 = .ok (.instanceof 10, 3) := by decide +kernel
theorem dP17_11 : decode jdk_42_method_66_code 11 = .ok (.ifCond .eq 43, 3) := by decide +kernel
theorem dP17_14 : decode jdk_42_method_66_code 14 = .ok (.aload_n 1, 1) := by decide +kernel
theorem dP17_15 : decode jdk_42_method_66_code 15 = .ok (.checkcast 10, 3) := by decide +kernel
theorem dP17_18 : decode jdk_42_method_66_code 18 = .ok (.astore_n 2, 1) := by decide +kernel
theorem dP17_19 : decode jdk_42_method_66_code 19 = .ok (.getstatic 38, 3) := by decide +kernel
theorem dP17_22 : decode jdk_42_method_66_code 22 = .ok (.ifCond .eq 14, 3) := by decide +kernel
theorem dP17_25 : decode jdk_42_method_66_code 25 = .ok (.aload_n 0, 1) := by decide +kernel
theorem dP17_26 : decode jdk_42_method_66_code 26 = .ok (.getfield 15, 3) := by decide +kernel
theorem dP17_29 : decode jdk_42_method_66_code 29 = .ok (.aload_n 2, 1) := by decide +kernel
theorem dP17_30 : decode jdk_42_method_66_code 30 = .ok (.getfield 15, 3) := by decide +kernel
theorem dP17_33 : decode jdk_42_method_66_code 33 = .ok (.if_icmp .ne 21, 3) := by decide +kernel
theorem dP17_36 : decode jdk_42_method_66_code 36 = .ok (.aload_n 0, 1) := by decide +kernel
theorem dP17_37 : decode jdk_42_method_66_code 37 = .ok (.getfield 9, 3) := by decide +kernel
theorem dP17_40 : decode jdk_42_method_66_code 40 = .ok (.aload_n 2, 1) := by decide +kernel
theorem dP17_41 : decode jdk_42_method_66_code 41 = .ok (.getfield 9, 3) := by decide +kernel
theorem dP17_44 : decode jdk_42_method_66_code 44 = .ok (.invokestatic 541, 3) := by decide +kernel
theorem dP17_47 : decode jdk_42_method_66_code 47 = .ok (.ifCond .eq 7, 3) := by decide +kernel
theorem dP17_50 : decode jdk_42_method_66_code 50 = .ok (.iconst 1, 1) := by decide +kernel
theorem dP17_51 : decode jdk_42_method_66_code 51 = .ok (.goto 4, 3) := by decide +kernel
theorem dP17_54 : decode jdk_42_method_66_code 54 = .ok (.iconst 0, 1) := by decide +kernel
theorem dP17_55 : decode jdk_42_method_66_code 55 = .ok (.ireturn, 1) := by decide +kernel
theorem pd__I_Lcom_example_tabent_tabent_query_Token_Kind_ : parseMethodDescriptor "(I)Lcom/example/tabent/tabent/query/Token$Kind;" = some ⟨[.int], (some (.object "com/example/tabent/tabent/query/Token$Kind"))⟩ := by decide +kernel
theorem pd__I_C : parseMethodDescriptor "(I)C" = some ⟨[.int], (some .char)⟩ := by decide +kernel
theorem pd__C_C : parseMethodDescriptor "(C)C" = some ⟨[.char], (some .char)⟩ := by decide +kernel
theorem pd__ICCC_Ljava_lang_String_ : parseMethodDescriptor "(ICCC)Ljava/lang/String;" = some ⟨[.int, .char, .char, .char], (some (.object "java/lang/String"))⟩ := by decide +kernel
theorem pd__Lcom_example_tabent_tabent_query_Token_Kind_Ljava_lang_String_Ljava_lang_Object_I_V : parseMethodDescriptor "(Lcom/example/tabent/tabent/query/Token$Kind;Ljava/lang/String;Ljava/lang/Object;I)V" = some ⟨[(.object "com/example/tabent/tabent/query/Token$Kind"), (.object "java/lang/String"), (.object "java/lang/Object"), .int], none⟩ := by decide +kernel
theorem pd__Ljava_lang_String__Ljava_lang_String_ : parseMethodDescriptor "(Ljava/lang/String;)Ljava/lang/String;" = some ⟨[(.object "java/lang/String")], (some (.object "java/lang/String"))⟩ := by decide +kernel
theorem pd__Ljava_lang_String__Z : parseMethodDescriptor "(Ljava/lang/String;)Z" = some ⟨[(.object "java/lang/String")], (some .boolean)⟩ := by decide +kernel
theorem pd____C : parseMethodDescriptor "()[C" = some ⟨[], (some (.array .char))⟩ := by decide +kernel
theorem pd___B__C : parseMethodDescriptor "([B)[C" = some ⟨[(.array .byte)], (some (.array .char))⟩ := by decide +kernel
theorem pd___BII_CI_V : parseMethodDescriptor "([BII[CI)V" = some ⟨[(.array .byte), .int, .int, (.array .char), .int], none⟩ := by decide +kernel
theorem pd__II_B_V : parseMethodDescriptor "(II[B)V" = some ⟨[.int, .int, (.array .byte)], none⟩ := by decide +kernel
theorem pd__III_I : parseMethodDescriptor "(III)I" = some ⟨[.int, .int, .int], (some .int)⟩ := by decide +kernel
theorem pd__IIILjava_util_function_BiFunction__I : parseMethodDescriptor "(IIILjava/util/function/BiFunction;)I" = some ⟨[.int, .int, .int, (.object "java/util/function/BiFunction")], (some .int)⟩ := by decide +kernel
theorem pd___BI_CII_V : parseMethodDescriptor "([BI[CII)V" = some ⟨[(.array .byte), .int, (.array .char), .int, .int], none⟩ := by decide +kernel
theorem pd___B_I : parseMethodDescriptor "([B)I" = some ⟨[(.array .byte)], (some .int)⟩ := by decide +kernel
theorem pd___Z : parseMethodDescriptor "()Z" = some ⟨[], (some .boolean)⟩ := by decide +kernel
theorem pd__Ljava_lang_Object__Z : parseMethodDescriptor "(Ljava/lang/Object;)Z" = some ⟨[(.object "java/lang/Object")], (some .boolean)⟩ := by decide +kernel
theorem own_weq : ∀ d ∈ StrChars.Road.wordsEq, d ∈ tables_1 := by decide +kernel
def own_up (c : Int32) : Int32 := if c < 97 then c else if 122 < c then c else c - 32
def own_bd (c : Int32) : Prop := ¬ c < 0 ∧ ¬ (65535 : Int32) < c
theorem own_bd_iff (c : Int32) : own_bd c ↔ 0 ≤ c.toInt ∧ c.toInt < 65536 := by
  unfold own_bd
  rw [Int32.lt_iff_toInt_lt, Int32.lt_iff_toInt_lt, show (0 : Int32).toInt = 0 from rfl, show (65535 : Int32).toInt = 65535 from rfl]
  omega
theorem own_i2c_bd (x : Int32) : own_bd x.toUInt32.toUInt16.toUInt32.toInt32 := by
  rw [own_bd_iff]
  have := c_i2c x
  omega
theorem own_i2c_id {c : Int32} (h : own_bd c) : c.toUInt32.toUInt16.toUInt32.toInt32 = c := by
  rw [own_bd_iff] at h
  have := c_i2c c
  apply Int32.toInt_inj.mp
  omega
theorem own_sub32 {c : Int32} (h1 : ¬ c < 97) (h2 : ¬ 122 < c) : (c - 32).toInt = c.toInt - 32 := by
  have q := c_isub c 32
  have r := rng32 (c - 32)
  rw [Int32.lt_iff_toInt_lt, show (97 : Int32).toInt = 97 from rfl] at h1
  rw [Int32.lt_iff_toInt_lt, show (122 : Int32).toInt = 122 from rfl] at h2
  rw [show (32 : Int32).toInt = 32 from rfl] at q
  omega
theorem own_up_bd {c : Int32} (h : own_bd c) : own_bd (own_up c) := by
  unfold own_up
  split
  · exact h
  · split
    · exact h
    · next h1 h2 =>
      rw [own_bd_iff] at h ⊢
      rw [own_sub32 h1 h2]
      rw [Int32.lt_iff_toInt_lt, show (97 : Int32).toInt = 97 from rfl] at h1
      omega
theorem own_up1 {c : Int32} (h1 : ¬ c < 97) (h2 : ¬ 122 < c) (h : own_bd c) : (c - 32).toUInt32.toUInt16.toUInt32.toInt32 = own_up c := by
  have e : own_up c = c - 32 := by unfold own_up; rw [if_neg h1, if_neg h2]
  rw [e, own_i2c_id]
  rw [← e]; exact own_up_bd h
theorem own_up2 {c : Int32} (h1 : ¬ c < 97) (h2 : ¬ 122 < c) (h : own_bd c) : (c - 97 + 65).toUInt32.toUInt16.toUInt32.toInt32 = own_up c := by
  have e : c - 97 + 65 = c - 32 := by
    apply Int32.toInt_inj.mp
    have q := own_sub32 h1 h2
    have a1 := c_isub c 97
    have a2 := c_iadd (c - 97) 65
    have r1 := rng32 (c - 97)
    have r2 := rng32 (c - 97 + 65)
    rw [Int32.lt_iff_toInt_lt, show (97 : Int32).toInt = 97 from rfl] at h1
    rw [Int32.lt_iff_toInt_lt, show (122 : Int32).toInt = 122 from rfl] at h2
    rw [show (97 : Int32).toInt = 97 from rfl] at a1
    rw [show (65 : Int32).toInt = 65 from rfl] at a2
    omega
  rw [e]; exact own_up1 h1 h2 h
def own_mk (n c0 c1 c2 : Int32) : List Int32 := if n = 0 then [] else if n = 1 then [c0] else if n = 2 then [c0, c1] else [c0, c1, c2]
theorem own_mklen (n c0 c1 c2 : Int32) : (own_mk n c0 c1 c2).length ≤ 3 := by unfold own_mk; split; decide; split; simp; split <;> simp
theorem own_narc {c : Int32} (h : own_bd c) : nar .char c = c := own_i2c_id h
theorem own_ncc (x : Int32) : narrow .char (.int x.toUInt32.toUInt16.toUInt32.toInt32) = .int x.toUInt32.toUInt16.toUInt32.toInt32 := StrChars.narrow_ch (own_i2c_bd x).1 (own_i2c_bd x).2
/-- the char[] when the first i chars of cs are laid -/
def own_ch (cs : List Int32) (n i : Nat) : List Value := ((cs.take i).map Value.int) ++ List.replicate (n - i) (.int 0)
theorem own_ch0 (cs : List Int32) (n : Nat) : own_ch cs n 0 = List.replicate n (.int 0) := by simp [own_ch]
theorem own_chn (cs : List Int32) {n : Nat} (hn : cs.length = n) : own_ch cs n n = cs.map Value.int := by subst hn; simp [own_ch]
theorem own_chlen (cs : List Int32) {n r : Nat} (hn : cs.length = n) (h : r ≤ n) : (own_ch cs n r).length = n := by simp [own_ch, hn]; omega
theorem own_chset (cs : List Int32) {n i : Nat} (hn : cs.length = n) (h : i < n) : (own_ch cs n i).set i (.int (cs.getD i 0)) = own_ch cs n (i + 1) := by
  have hl : i < cs.length := by omega
  have e1 : cs.take (i + 1) = cs.take i ++ [cs.getD i 0] := by rw [List.take_succ]; simp [List.getD_eq_getElem?_getD, hl]
  have e3 : List.replicate (n - i) (Value.int 0) = .int 0 :: List.replicate (n - (i + 1)) (.int 0) := by rw [show n - i = n - (i + 1) + 1 by omega]; rfl
  unfold own_ch
  rw [e1, e3, List.set_append_right _ _ (by simp; omega)]
  simp [Nat.min_eq_left (Nat.le_of_lt hl)]
/-- the chars when the first i are turned -/
def own_us (cs : List Int32) (i : Nat) : List Int32 := (cs.take i).map own_up ++ cs.drop i
theorem own_us0 (cs : List Int32) : own_us cs 0 = cs := by simp [own_us]
theorem own_usn (cs : List Int32) : own_us cs cs.length = cs.map own_up := by simp [own_us]
theorem own_uslen (cs : List Int32) {i : Nat} (h : i ≤ cs.length) : (own_us cs i).length = cs.length := by simp [own_us]; omega
theorem own_usget (cs : List Int32) {i : Nat} (h : i < cs.length) : (own_us cs i).getD i 0 = cs.getD i 0 := by
  simp [own_us, List.getD_eq_getElem?_getD, List.getElem?_append, Nat.min_eq_left (Nat.le_of_lt h)]
theorem own_usset (cs : List Int32) {i : Nat} (h : i < cs.length) : (own_us cs i).set i (own_up (cs.getD i 0)) = own_us cs (i + 1) := by
  have e1 : cs.take (i + 1) = cs.take i ++ [cs.getD i 0] := by rw [List.take_succ]; simp [List.getD_eq_getElem?_getD, h]
  have e2 : cs.drop i = cs.getD i 0 :: cs.drop (i + 1) := by rw [List.drop_eq_getElem_cons h]; simp [List.getD_eq_getElem?_getD, h]
  unfold own_us
  rw [e1, e2, List.set_append_right _ _ (by simp; omega)]
  simp [Nat.min_eq_left (Nat.le_of_lt h)]
theorem own_uskeep (cs : List Int32) {i : Nat} (h : i < cs.length) (e : own_up (cs.getD i 0) = cs.getD i 0) : own_us cs i = own_us cs (i + 1) := by
  rw [← own_usset cs h, e]
  apply List.ext_getElem?
  intro j
  rw [List.getElem?_set]
  by_cases q : i = j
  · subst q
    rw [if_pos rfl, if_pos (by rw [own_uslen cs (by omega)]; exact h)]
    have := own_usget cs h
    rw [List.getD_eq_getElem?_getD, List.getElem?_eq_getElem (by rw [own_uslen cs (by omega)]; exact h)] at this
    rw [List.getElem?_eq_getElem (by rw [own_uslen cs (by omega)]; exact h)]
    simpa using this
  · rw [if_neg q]
theorem own_upall {cs : List Int32} (h : ∀ c ∈ cs, ¬ c < 0 ∧ ¬ (65535 : Int32) < c) : ∀ c ∈ cs.map own_up, ¬ c < 0 ∧ ¬ (65535 : Int32) < c := fun c hc => by
  obtain ⟨x, hx, rfl⟩ := List.mem_map.mp hc
  exact own_up_bd (h x hx)
theorem own_or3 {a b c : Nat} (ha : a < 2 ^ 30) (hb : b < 2 ^ 30) (hc : c < 2 ^ 30) : ¬ ((Int32.ofNat a ||| Int32.ofNat b) ||| Int32.ofNat c) < (0 : Int32) := by
  have ea : (Int32.ofNat a).toInt = a := Int32.toInt_ofNat_of_lt (by omega)
  have eb : (Int32.ofNat b).toInt = b := Int32.toInt_ofNat_of_lt (by omega)
  have ec : (Int32.ofNat c).toInt = c := Int32.toInt_ofNat_of_lt (by omega)
  have q1 := (c_orS (Int32.ofNat a) (Int32.ofNat b)).1 (by omega) (by omega)
  have q2 := (c_orS (Int32.ofNat a ||| Int32.ofNat b) (Int32.ofNat c)).1 q1 (by omega)
  rw [Int32.lt_iff_toInt_lt, show (0 : Int32).toInt = 0 from rfl]
  omega
theorem own_sub0 (n : Nat) : Int32.ofNat n - Int32.ofNat 0 = Int32.ofNat n := Int32.sub_zero _
theorem pn_com_example_tabent_tabent_query_TokenIsPinLaw : plainName "com/example/tabent/tabent/query/TokenIsPinLaw" = true := by first | (simp [plainName, overriddenIn]; done) | decide +kernel
set_option maxRecDepth 65536 in
set_option maxHeartbeats 4000000 in
theorem con_kof (l : Launch) (Z : State) (a0 : Array Value) (hw : ∀ d ∈ tables_1, d.before a0 Z = true) (hEL : EW Z a0 consts_1) (k0 k1 k2 k3 k4 k5 k6 k7 k8 : Addr) (SK0 : Sta Z Z.heap "com/example/tabent/tabent/query/Token$Kind" "WORD" "Lcom/example/tabent/tabent/query/Token$Kind;" (.ref k0)) (SK1 : Sta Z Z.heap "com/example/tabent/tabent/query/Token$Kind" "STRING" "Lcom/example/tabent/tabent/query/Token$Kind;" (.ref k1)) (SK2 : Sta Z Z.heap "com/example/tabent/tabent/query/Token$Kind" "INTEGER" "Lcom/example/tabent/tabent/query/Token$Kind;" (.ref k2)) (SK3 : Sta Z Z.heap "com/example/tabent/tabent/query/Token$Kind" "LONG" "Lcom/example/tabent/tabent/query/Token$Kind;" (.ref k3)) (SK4 : Sta Z Z.heap "com/example/tabent/tabent/query/Token$Kind" "DECIMAL" "Lcom/example/tabent/tabent/query/Token$Kind;" (.ref k4)) (SK5 : Sta Z Z.heap "com/example/tabent/tabent/query/Token$Kind" "NAMED_PARAMETER" "Lcom/example/tabent/tabent/query/Token$Kind;" (.ref k5)) (SK6 : Sta Z Z.heap "com/example/tabent/tabent/query/Token$Kind" "POSITIONAL_PARAMETER" "Lcom/example/tabent/tabent/query/Token$Kind;" (.ref k6)) (SK7 : Sta Z Z.heap "com/example/tabent/tabent/query/Token$Kind" "SYMBOL" "Lcom/example/tabent/tabent/query/Token$Kind;" (.ref k7)) (SK8 : Sta Z Z.heap "com/example/tabent/tabent/query/Token$Kind" "END" "Lcom/example/tabent/tabent/query/Token$Kind;" (.ref k8)) (sel : Int32) (h0 : Heap) (O : Ext Z.heap h0) :
    Ocon l Z consts_1 (⟨"com/example/tabent/tabent/query/TokenIsPinLaw", "kindOf", "(I)Lcom/example/tabent/tabent/query/Token$Kind;"⟩ : MethodName) method_3_code 2 (some (.object "com/example/tabent/tabent/query/Token$Kind")) [] ({ frames := 0, cells := 0, slots := 0, locals := 0 } : Room) #[(.int sel)] h0 [] [] (fun v h _ => ∃ ka, v = some (.ref ka) ∧ h0 = h) := by
  refine own_con (a0 := a0) hEL (plainFor_of_name pn_com_example_tabent_tabent_query_TokenIsPinLaw) ?_
  intro p e s m below meth c T hs W0
  have ef : entryFrame m #[(.int sel)] 2 = mkF m 0 #[.val (.int sel), .unset] [] := own_entry m [(.int sel)] 2 (by simp [Value.category]) rfl
  rw [ef]
  refine g_iloadN W0 dP0_0 (pc' := 1) rfl rfl ?_
  refine g_ldcI W0 dP0_1 (pc' := 3) rfl (hw _ (List.mem_of_getElem? (i := 4) rfl)) ?_
  refine g_iand W0 dP0_3 (pc' := 4) rfl ?_
  refine g_bipush W0 dP0_4 (pc' := 6) rfl (v := 9) rfl ?_
  refine g_irem W0 dP0_6 (pc' := 7) rfl (by decide) ?_
  refine g_istoreN W0 dP0_7 (pc' := 8) rfl (ls' := #[.val (.int sel), .val (.int ((sel &&& (2147483647 : Int32)) % (9 : Int32)))]) rfl ?_
  refine g_iloadN W0 dP0_8 (pc' := 9) rfl rfl ?_
  by_cases c156 : ((sel &&& (2147483647 : Int32)) % (9 : Int32)) = (0 : Int32)
  · skip
    refine g_ifN W0 dP0_9 (pc' := 12) (teq c156).2 rfl ?_
    refine g_getS W0 dP0_12 (pc' := 15) rfl (hw _ (List.mem_of_getElem? (i := 5) rfl)) (SK0.ext O) ?_
    intro T158 W157
    exact g_aret W157 dP0_15 rfl rfl rfl rfl ⟨k0, rfl, rfl⟩
  · skip
    refine g_ifY W0 dP0_9 (pc' := 16) (feq c156).2 (by decide) (by decide) ?_
    refine g_iloadN W0 dP0_16 (pc' := 17) rfl rfl ?_
    refine g_iconst W0 dP0_17 (pc' := 18) rfl (v := 1) rfl ?_
    by_cases c159 : ((sel &&& (2147483647 : Int32)) % (9 : Int32)) = (1 : Int32)
    · skip
      refine g_icN W0 dP0_18 (pc' := 21) (teq c159).2 rfl ?_
      refine g_getS W0 dP0_21 (pc' := 24) rfl (hw _ (List.mem_of_getElem? (i := 147) rfl)) (SK1.ext O) ?_
      intro T161 W160
      exact g_aret W160 dP0_24 rfl rfl rfl rfl ⟨k1, rfl, rfl⟩
    · skip
      refine g_icY W0 dP0_18 (pc' := 25) (feq c159).2 (by decide) (by decide) ?_
      refine g_iloadN W0 dP0_25 (pc' := 26) rfl rfl ?_
      refine g_iconst W0 dP0_26 (pc' := 27) rfl (v := 2) rfl ?_
      by_cases c162 : ((sel &&& (2147483647 : Int32)) % (9 : Int32)) = (2 : Int32)
      · skip
        refine g_icN W0 dP0_27 (pc' := 30) (teq c162).2 rfl ?_
        refine g_getS W0 dP0_30 (pc' := 33) rfl (hw _ (List.mem_of_getElem? (i := 149) rfl)) (SK2.ext O) ?_
        intro T164 W163
        exact g_aret W163 dP0_33 rfl rfl rfl rfl ⟨k2, rfl, rfl⟩
      · skip
        refine g_icY W0 dP0_27 (pc' := 34) (feq c162).2 (by decide) (by decide) ?_
        refine g_iloadN W0 dP0_34 (pc' := 35) rfl rfl ?_
        refine g_iconst W0 dP0_35 (pc' := 36) rfl (v := 3) rfl ?_
        by_cases c165 : ((sel &&& (2147483647 : Int32)) % (9 : Int32)) = (3 : Int32)
        · skip
          refine g_icN W0 dP0_36 (pc' := 39) (teq c165).2 rfl ?_
          refine g_getS W0 dP0_39 (pc' := 42) rfl (hw _ (List.mem_of_getElem? (i := 134) rfl)) (SK3.ext O) ?_
          intro T167 W166
          exact g_aret W166 dP0_42 rfl rfl rfl rfl ⟨k3, rfl, rfl⟩
        · skip
          refine g_icY W0 dP0_36 (pc' := 43) (feq c165).2 (by decide) (by decide) ?_
          refine g_iloadN W0 dP0_43 (pc' := 44) rfl rfl ?_
          refine g_iconst W0 dP0_44 (pc' := 45) rfl (v := 4) rfl ?_
          by_cases c168 : ((sel &&& (2147483647 : Int32)) % (9 : Int32)) = (4 : Int32)
          · skip
            refine g_icN W0 dP0_45 (pc' := 48) (teq c168).2 rfl ?_
            refine g_getS W0 dP0_48 (pc' := 51) rfl (hw _ (List.mem_of_getElem? (i := 138) rfl)) (SK4.ext O) ?_
            intro T170 W169
            exact g_aret W169 dP0_51 rfl rfl rfl rfl ⟨k4, rfl, rfl⟩
          · skip
            refine g_icY W0 dP0_45 (pc' := 52) (feq c168).2 (by decide) (by decide) ?_
            refine g_iloadN W0 dP0_52 (pc' := 53) rfl rfl ?_
            refine g_iconst W0 dP0_53 (pc' := 54) rfl (v := 5) rfl ?_
            by_cases c171 : ((sel &&& (2147483647 : Int32)) % (9 : Int32)) = (5 : Int32)
            · skip
              refine g_icN W0 dP0_54 (pc' := 57) (teq c171).2 rfl ?_
              refine g_getS W0 dP0_57 (pc' := 60) rfl (hw _ (List.mem_of_getElem? (i := 157) rfl)) (SK5.ext O) ?_
              intro T173 W172
              exact g_aret W172 dP0_60 rfl rfl rfl rfl ⟨k5, rfl, rfl⟩
            · skip
              refine g_icY W0 dP0_54 (pc' := 61) (feq c171).2 (by decide) (by decide) ?_
              refine g_iloadN W0 dP0_61 (pc' := 62) rfl rfl ?_
              refine g_bipush W0 dP0_62 (pc' := 64) rfl (v := 6) rfl ?_
              by_cases c174 : ((sel &&& (2147483647 : Int32)) % (9 : Int32)) = (6 : Int32)
              · skip
                refine g_icN W0 dP0_64 (pc' := 67) (teq c174).2 rfl ?_
                refine g_getS W0 dP0_67 (pc' := 70) rfl (hw _ (List.mem_of_getElem? (i := 143) rfl)) (SK6.ext O) ?_
                intro T176 W175
                exact g_aret W175 dP0_70 rfl rfl rfl rfl ⟨k6, rfl, rfl⟩
              · skip
                refine g_icY W0 dP0_64 (pc' := 71) (feq c174).2 (by decide) (by decide) ?_
                refine g_iloadN W0 dP0_71 (pc' := 72) rfl rfl ?_
                refine g_bipush W0 dP0_72 (pc' := 74) rfl (v := 7) rfl ?_
                by_cases c177 : ((sel &&& (2147483647 : Int32)) % (9 : Int32)) = (7 : Int32)
                · skip
                  refine g_icN W0 dP0_74 (pc' := 77) (teq c177).2 rfl ?_
                  refine g_getS W0 dP0_77 (pc' := 80) rfl (hw _ (List.mem_of_getElem? (i := 145) rfl)) (SK7.ext O) ?_
                  intro T179 W178
                  exact g_aret W178 dP0_80 rfl rfl rfl rfl ⟨k7, rfl, rfl⟩
                · skip
                  refine g_icY W0 dP0_74 (pc' := 81) (feq c177).2 (by decide) (by decide) ?_
                  refine g_getS W0 dP0_81 (pc' := 84) rfl (hw _ (List.mem_of_getElem? (i := 136) rfl)) (SK8.ext O) ?_
                  intro T181 W180
                  exact g_aret W180 dP0_84 rfl rfl rfl rfl ⟨k8, rfl, rfl⟩
set_option maxRecDepth 65536 in
set_option maxHeartbeats 4000000 in
theorem con_drw (l : Launch) (Z : State) (a0 : Array Value) (hw : ∀ d ∈ tables_1, d.before a0 Z = true) (hEL : EW Z a0 consts_1) (x : Int32) (h0 : Heap) :
    Ocon l Z consts_1 (⟨"com/example/tabent/tabent/query/TokenIsPinLaw", "draw", "(I)C"⟩ : MethodName) method_4_code 3 (some .char) [] ({ frames := 0, cells := 0, slots := 0, locals := 0 } : Room) #[(.int x)] h0 [] [] (fun v h _ => ∃ ch, v = some (.int ch) ∧ own_bd ch ∧ h0 = h) := by
  refine own_con (a0 := a0) hEL (plainFor_of_name pn_com_example_tabent_tabent_query_TokenIsPinLaw) ?_
  intro p e s m below meth c T hs W0
  have ef : entryFrame m #[(.int x)] 3 = mkF m 0 #[.val (.int x), .unset, .unset] [] := own_entry m [(.int x)] 3 (by simp [Value.category]) rfl
  rw [ef]
  refine g_iloadN W0 dP1_0 (pc' := 1) rfl rfl ?_
  refine g_iconst W0 dP1_1 (pc' := 2) rfl (v := 3) rfl ?_
  refine g_iand W0 dP1_2 (pc' := 3) rfl ?_
  refine g_istoreN W0 dP1_3 (pc' := 4) rfl (ls' := #[.val (.int x), .val (.int (x &&& (3 : Int32))), .unset]) rfl ?_
  refine g_iloadN W0 dP1_4 (pc' := 5) rfl rfl ?_
  refine g_iconst W0 dP1_5 (pc' := 6) rfl (v := 2) rfl ?_
  refine g_iushr W0 dP1_6 (pc' := 7) rfl ?_
  refine g_sipush W0 dP1_7 (pc' := 10) rfl (v := 255) rfl ?_
  refine g_iand W0 dP1_10 (pc' := 11) rfl ?_
  refine g_istoreN W0 dP1_11 (pc' := 12) rfl (ls' := #[.val (.int x), .val (.int (x &&& (3 : Int32))), .val (.int ((XT.ushr x (2 : Int32)) &&& (255 : Int32)))]) rfl ?_
  refine g_iloadN W0 dP1_12 (pc' := 13) rfl rfl ?_
  by_cases c182 : (x &&& (3 : Int32)) = (0 : Int32)
  · skip
    refine g_ifN W0 dP1_13 (pc' := 16) (teq c182).2 rfl ?_
    refine g_bipush W0 dP1_16 (pc' := 18) rfl (v := 97) rfl ?_
    refine g_iloadN W0 dP1_18 (pc' := 19) rfl rfl ?_
    refine g_bipush W0 dP1_19 (pc' := 21) rfl (v := 26) rfl ?_
    refine g_irem W0 dP1_21 (pc' := 22) rfl (by decide) ?_
    refine g_iadd W0 dP1_22 (pc' := 23) rfl ?_
    refine g_i2c W0 dP1_23 (pc' := 24) rfl ?_
    exact g_iret W0 dP1_24 rfl (Or.inr (Or.inr (Or.inr (Or.inl rfl)))) (own_ncc _) ⟨_, rfl, own_i2c_bd _, rfl⟩
  · skip
    refine g_ifY W0 dP1_13 (pc' := 25) (feq c182).2 (by decide) (by decide) ?_
    refine g_iloadN W0 dP1_25 (pc' := 26) rfl rfl ?_
    refine g_iconst W0 dP1_26 (pc' := 27) rfl (v := 1) rfl ?_
    by_cases c183 : (x &&& (3 : Int32)) = (1 : Int32)
    · skip
      refine g_icN W0 dP1_27 (pc' := 30) (teq c183).2 rfl ?_
      refine g_bipush W0 dP1_30 (pc' := 32) rfl (v := 65) rfl ?_
      refine g_iloadN W0 dP1_32 (pc' := 33) rfl rfl ?_
      refine g_bipush W0 dP1_33 (pc' := 35) rfl (v := 26) rfl ?_
      refine g_irem W0 dP1_35 (pc' := 36) rfl (by decide) ?_
      refine g_iadd W0 dP1_36 (pc' := 37) rfl ?_
      refine g_i2c W0 dP1_37 (pc' := 38) rfl ?_
      exact g_iret W0 dP1_38 rfl (Or.inr (Or.inr (Or.inr (Or.inl rfl)))) (own_ncc _) ⟨_, rfl, own_i2c_bd _, rfl⟩
    · skip
      refine g_icY W0 dP1_27 (pc' := 39) (feq c183).2 (by decide) (by decide) ?_
      refine g_iloadN W0 dP1_39 (pc' := 40) rfl rfl ?_
      refine g_iconst W0 dP1_40 (pc' := 41) rfl (v := 2) rfl ?_
      by_cases c184 : (x &&& (3 : Int32)) = (2 : Int32)
      · skip
        refine g_icN W0 dP1_41 (pc' := 44) (teq c184).2 rfl ?_
        refine g_iloadN W0 dP1_44 (pc' := 45) rfl rfl ?_
        refine g_i2c W0 dP1_45 (pc' := 46) rfl ?_
        exact g_iret W0 dP1_46 rfl (Or.inr (Or.inr (Or.inr (Or.inl rfl)))) (own_ncc _) ⟨_, rfl, own_i2c_bd _, rfl⟩
      · skip
        refine g_icY W0 dP1_41 (pc' := 47) (feq c184).2 (by decide) (by decide) ?_
        refine g_sipush W0 dP1_47 (pc' := 50) rfl (v := 256) rfl ?_
        refine g_iloadN W0 dP1_50 (pc' := 51) rfl rfl ?_
        refine g_iadd W0 dP1_51 (pc' := 52) rfl ?_
        refine g_i2c W0 dP1_52 (pc' := 53) rfl ?_
        exact g_iret W0 dP1_53 rfl (Or.inr (Or.inr (Or.inr (Or.inl rfl)))) (own_ncc _) ⟨_, rfl, own_i2c_bd _, rfl⟩
set_option maxRecDepth 65536 in
set_option maxHeartbeats 4000000 in
theorem con_upc (l : Launch) (Z : State) (a0 : Array Value) (hw : ∀ d ∈ tables_1, d.before a0 Z = true) (hEL : EW Z a0 consts_1) (ch : Int32) (h0 : Heap) (hb : own_bd ch) :
    Ocon l Z consts_1 (⟨"com/example/tabent/tabent/query/TokenIsPinLaw", "up", "(C)C"⟩ : MethodName) method_5_code 1 (some .char) [] ({ frames := 0, cells := 0, slots := 0, locals := 0 } : Room) #[(.int ch)] h0 [] [] (fun v h _ => v = some (.int (own_up ch)) ∧ h0 = h) := by
  refine own_con (a0 := a0) hEL (plainFor_of_name pn_com_example_tabent_tabent_query_TokenIsPinLaw) ?_
  intro p e s m below meth c T hs W0
  have ef : entryFrame m #[(.int ch)] 1 = mkF m 0 #[.val (.int ch)] [] := own_entry m [(.int ch)] 1 (by simp [Value.category]) rfl
  rw [ef]
  have hub := own_up_bd hb
  refine g_iloadN W0 dP2_0 (pc' := 1) rfl rfl ?_
  refine g_bipush W0 dP2_1 (pc' := 3) rfl (v := 97) rfl ?_
  by_cases c185 : ch < (97 : Int32)
  · skip
    refine g_icY W0 dP2_3 (pc' := 18) (tlt c185).1 (by decide) (by decide) ?_
    refine g_iloadN W0 dP2_18 (pc' := 19) rfl rfl ?_
    exact g_iret W0 dP2_19 rfl (Or.inr (Or.inr (Or.inr (Or.inl rfl)))) (StrChars.narrow_ch hb.1 hb.2) ⟨by unfold own_up; rw [if_pos c185], rfl⟩
  · skip
    refine g_icN W0 dP2_3 (pc' := 6) (flt c185).1 rfl ?_
    refine g_iloadN W0 dP2_6 (pc' := 7) rfl rfl ?_
    refine g_bipush W0 dP2_7 (pc' := 9) rfl (v := 122) rfl ?_
    by_cases c186 : (122 : Int32) < ch
    · skip
      refine g_icY W0 dP2_9 (pc' := 18) (tlt c186).2.2.1 (by decide) (by decide) ?_
      refine g_iloadN W0 dP2_18 (pc' := 19) rfl rfl ?_
      exact g_iret W0 dP2_19 rfl (Or.inr (Or.inr (Or.inr (Or.inl rfl)))) (StrChars.narrow_ch hb.1 hb.2) ⟨by unfold own_up; rw [if_neg c185, if_pos c186], rfl⟩
    · skip
      refine g_icN W0 dP2_9 (pc' := 12) (flt c186).2.2.1 rfl ?_
      refine g_iloadN W0 dP2_12 (pc' := 13) rfl rfl ?_
      refine g_bipush W0 dP2_13 (pc' := 15) rfl (v := 32) rfl ?_
      refine g_isub W0 dP2_15 (pc' := 16) rfl ?_
      refine g_i2c W0 dP2_16 (pc' := 17) rfl ?_
      rw [own_up1 c185 c186 hb]
      exact g_iret W0 dP2_17 rfl (Or.inr (Or.inr (Or.inr (Or.inl rfl)))) (StrChars.narrow_ch hub.1 hub.2) ⟨rfl, rfl⟩
theorem own_bb0 : ∀ c ∈ ([] : List Int32), ¬ c < 0 ∧ ¬ (65535 : Int32) < c := fun _ q => nomatch q
theorem own_bbc {c : Int32} {cs : List Int32} (q : own_bd c) (r : ∀ c ∈ cs, ¬ c < 0 ∧ ¬ (65535 : Int32) < c) : ∀ x ∈ c :: cs, ¬ x < 0 ∧ ¬ (65535 : Int32) < x := fun x hx => by
  rcases List.mem_cons.mp hx with rfl | z
  · exact q
  · exact r x z
set_option maxRecDepth 65536 in
set_option maxHeartbeats 4000000 in
theorem con_mke (l : Launch) (Z : State) (a0 : Array Value) (hw : ∀ d ∈ tables_1, d.before a0 Z = true) (hEL : EW Z a0 consts_1) (n c0 c1 c2 : Int32) (zc : Int32) (SC : Sta Z Z.heap "java/lang/String" "COMPACT_STRINGS" "Z" (.int zc)) (hzc : ¬ zc = 0) (h0 : Heap) (O : Ext Z.heap h0) (SA : Sta Z Z.heap "java/lang/StringUTF16" "$assertionsDisabled" "Z" (.int 1)) (SH : Sta Z Z.heap "java/lang/StringUTF16" "HI_BYTE_SHIFT" "I" (.int 0)) (SL : Sta Z Z.heap "java/lang/StringUTF16" "LO_BYTE_SHIFT" "I" (.int 8)) (b0 : own_bd c0) (b1 : own_bd c1) (b2 : own_bd c2) :
    Ocon l Z consts_1 (⟨"com/example/tabent/tabent/query/TokenIsPinLaw", "make", "(ICCC)Ljava/lang/String;"⟩ : MethodName) method_6_code 4 (some (.object "java/lang/String")) [] ({ frames := 6, cells := 6, slots := 24, locals := 88 } : Room) #[(.int n), (.int c0), (.int c1), (.int c2)] h0 [] [] (fun v h _ => ∃ y, v = some (.ref y) ∧ Ext h0 h ∧ OStr Z h y (own_mk n c0 c1 c2)) := by
  refine own_con (a0 := a0) hEL (plainFor_of_name pn_com_example_tabent_tabent_query_TokenIsPinLaw) ?_
  intro p e s m below meth c T hs W0
  have ef : entryFrame m #[(.int n), (.int c0), (.int c1), (.int c2)] 4 = mkF m 0 #[.val (.int n), .val (.int c0), .val (.int c1), .val (.int c2)] [] := own_entry m [(.int n), (.int c0), (.int c1), (.int c2)] 4 (by simp [Value.category]) rfl
  rw [ef]
  refine g_iloadN W0 dP3_0 (pc' := 1) rfl rfl ?_
  by_cases c187 : n = (0 : Int32)
  · skip
    refine g_ifN W0 dP3_1 (pc' := 4) (teq c187).2 rfl ?_
    refine g_new W0 dP3_4 (pc' := 7) rfl (hw _ (List.mem_of_getElem? (i := 17) rfl)) (hw _ (List.mem_of_getElem? (i := 18) rfl)) (hw _ (List.mem_of_getElem? (i := 19) rfl)) (by decide) (by decide) ?_
    intro T188 h189 E190 A191 D192 U193 W194
    obtain ⟨a195, g196⟩ : ∃ z, z = h0.size := ⟨_, rfl⟩
    rw [← g196] at A191 D192 U193 W194 ⊢
    have nxa195 : s.heap.size ≤ a195 := by rw [g196]; exact W0.grown
    have zxa195 : Z.heap.size ≤ a195 := by rw [g196]; exact O.1
    refine g_dup W194 dP3_7 (pc' := 8) rfl rfl ?_
    refine g_iconst W194 dP3_8 (pc' := 9) rfl (v := 0) rfl ?_
    refine g_newP W194 dP3_9 (pc' := 11) (cap := 0) rfl (ty := .char) (dv := (.int 0)) rfl rfl (hw _ (List.mem_of_getElem? (i := 20) rfl)) (by decide) (by decide) (by decide) (by decide) (by decide) ?_
    intro T197 h198 cA199 E200 A201 W202
    obtain ⟨a203, g204⟩ : ∃ z, z = h189.size := ⟨_, rfl⟩
    rw [← g204] at A201 W202 ⊢
    have X205 := own_ext_tr E190 E200
    have naa203 : s.heap.size ≤ a203 := by rw [g204]; exact W194.grown
    have X206 := own_ext_tr E190 E200
    refine g_special W202 dP3_11 (pc' := 14) rfl rfl (hw _ (List.mem_of_getElem? (i := 21) rfl)) (hw _ (List.mem_of_getElem? (i := 22) rfl)) (hw _ (List.mem_of_getElem? (i := 19) rfl)) (hw _ (List.mem_of_getElem? (i := 23) rfl)) (by decide) (con_new1 l Z a0 hw hEL a195 a203 _ [] _ _ _ zc 0 h198 (own_ext_tr O X206) SA SH SL zxa195 rfl (by omega) (A191.ext E200) ((D192 (Or.inr (hw _ (List.mem_of_getElem? (i := 65) rfl))) (ty := .array .byte) (by decide)).ext E200) ((D192 (Or.inr (hw _ (List.mem_of_getElem? (i := 63) rfl))) (ty := .byte) (by decide)).ext E200) (own_pad0 0 A201) own_bb0 SC hzc) pd___C_V (argsL := [(.ref a203)]) (st := [(.ref a195)]) rfl rfl rfl rfl (by decide) (w := 1) (Nat.le_of_eq rfl) (by decide) (by decide) (by decide) (by simp) (fun q hq => Or.inr (by rcases List.mem_cons.mp hq with rfl | hq; exact nxa195; cases List.mem_singleton.mp hq; exact nxa195)) ?_
    intro v207 T208 h209 S212 q210 W213
    have W211 := W213.sf (SF' := [a203, a195]) (fun _ hx => List.mem_append_right _ hx)
    obtain ⟨rfl, K214, S215⟩ := q210
    have Y216 := own_ext_keep X206 K214 (by intro y hy; rw [List.mem_singleton.mp hy, g196]; exact Nat.le_refl _)
    exact g_aret W211 dP3_14 rfl rfl rfl rfl ⟨a195, rfl, Y216, by unfold own_mk; rw [if_pos c187]; exact S215⟩
  · skip
    refine g_ifY W0 dP3_1 (pc' := 15) (feq c187).2 (by decide) (by decide) ?_
    refine g_iloadN W0 dP3_15 (pc' := 16) rfl rfl ?_
    refine g_iconst W0 dP3_16 (pc' := 17) rfl (v := 1) rfl ?_
    by_cases c217 : n = (1 : Int32)
    · skip
      refine g_icN W0 dP3_17 (pc' := 20) (teq c217).2 rfl ?_
      refine g_new W0 dP3_20 (pc' := 23) rfl (hw _ (List.mem_of_getElem? (i := 17) rfl)) (hw _ (List.mem_of_getElem? (i := 18) rfl)) (hw _ (List.mem_of_getElem? (i := 19) rfl)) (by decide) (by decide) ?_
      intro T218 h219 E220 A221 D222 U223 W224
      obtain ⟨a225, g226⟩ : ∃ z, z = h0.size := ⟨_, rfl⟩
      rw [← g226] at A221 D222 U223 W224 ⊢
      have nxa225 : s.heap.size ≤ a225 := by rw [g226]; exact W0.grown
      have zxa225 : Z.heap.size ≤ a225 := by rw [g226]; exact O.1
      refine g_dup W224 dP3_23 (pc' := 24) rfl rfl ?_
      refine g_iconst W224 dP3_24 (pc' := 25) rfl (v := 1) rfl ?_
      refine g_newP W224 dP3_25 (pc' := 27) (cap := 1) rfl (ty := .char) (dv := (.int 0)) rfl rfl (hw _ (List.mem_of_getElem? (i := 20) rfl)) (by decide) (by decide) (by decide) (by decide) (by decide) ?_
      intro T227 h228 cA229 E230 A231 W232
      obtain ⟨a233, g234⟩ : ∃ z, z = h219.size := ⟨_, rfl⟩
      rw [← g234] at A231 W232 ⊢
      have X235 := own_ext_tr E220 E230
      have naa233 : s.heap.size ≤ a233 := by rw [g234]; exact W224.grown
      refine g_dup W232 dP3_27 (pc' := 28) rfl rfl ?_
      refine g_iconst W232 dP3_28 (pc' := 29) rfl (v := 0) rfl ?_
      refine g_iloadN W232 dP3_29 (pc' := 30) rfl rfl ?_
      refine g_castore W232 dP3_30 (pc' := 31) rfl (own_pad0 1 A231) (i := 0) rfl (by decide) (by first | decide | simp) (y := c0) (own_narc b0) (vs' := [(.int c0)]) rfl (by simp) (Or.inr naa233) ?_
      intro T236 h237 w238 A239 W240
      have X242 := own_ext_wr E230 w238 (by rw [g234]; exact Nat.le_refl _)
      have X243 := own_ext_tr E220 X242
      refine g_special W240 dP3_31 (pc' := 34) rfl rfl (hw _ (List.mem_of_getElem? (i := 21) rfl)) (hw _ (List.mem_of_getElem? (i := 22) rfl)) (hw _ (List.mem_of_getElem? (i := 19) rfl)) (hw _ (List.mem_of_getElem? (i := 23) rfl)) (by decide) (con_new1 l Z a0 hw hEL a225 a233 _ [c0] _ _ _ zc 1 h237 (own_ext_tr O X243) SA SH SL zxa225 rfl (by omega) (A221.ext X242) ((D222 (Or.inr (hw _ (List.mem_of_getElem? (i := 65) rfl))) (ty := .array .byte) (by decide)).ext X242) ((D222 (Or.inr (hw _ (List.mem_of_getElem? (i := 63) rfl))) (ty := .byte) (by decide)).ext X242) A239 (own_bbc b0 own_bb0) SC hzc) pd___C_V (argsL := [(.ref a233)]) (st := [(.ref a225)]) rfl rfl rfl rfl (by decide) (w := 1) (Nat.le_of_eq rfl) (by decide) (by decide) (by decide) (by simp) (fun q hq => Or.inr (by rcases List.mem_cons.mp hq with rfl | hq; exact nxa225; cases List.mem_singleton.mp hq; exact nxa225)) ?_
      intro v244 T245 h246 S249 q247 W250
      have W248 := W250.sf (SF' := [a233, a225]) (fun _ hx => List.mem_append_right _ hx)
      obtain ⟨rfl, K251, S252⟩ := q247
      have Y253 := own_ext_keep X243 K251 (by intro y hy; rw [List.mem_singleton.mp hy, g226]; exact Nat.le_refl _)
      exact g_aret W248 dP3_34 rfl rfl rfl rfl ⟨a225, rfl, Y253, by unfold own_mk; rw [if_neg c187, if_pos c217]; exact S252⟩
    · skip
      refine g_icY W0 dP3_17 (pc' := 35) (feq c217).2 (by decide) (by decide) ?_
      refine g_iloadN W0 dP3_35 (pc' := 36) rfl rfl ?_
      refine g_iconst W0 dP3_36 (pc' := 37) rfl (v := 2) rfl ?_
      by_cases c254 : n = (2 : Int32)
      · skip
        refine g_icN W0 dP3_37 (pc' := 40) (teq c254).2 rfl ?_
        refine g_new W0 dP3_40 (pc' := 43) rfl (hw _ (List.mem_of_getElem? (i := 17) rfl)) (hw _ (List.mem_of_getElem? (i := 18) rfl)) (hw _ (List.mem_of_getElem? (i := 19) rfl)) (by decide) (by decide) ?_
        intro T255 h256 E257 A258 D259 U260 W261
        obtain ⟨a262, g263⟩ : ∃ z, z = h0.size := ⟨_, rfl⟩
        rw [← g263] at A258 D259 U260 W261 ⊢
        have nxa262 : s.heap.size ≤ a262 := by rw [g263]; exact W0.grown
        have zxa262 : Z.heap.size ≤ a262 := by rw [g263]; exact O.1
        refine g_dup W261 dP3_43 (pc' := 44) rfl rfl ?_
        refine g_iconst W261 dP3_44 (pc' := 45) rfl (v := 2) rfl ?_
        refine g_newP W261 dP3_45 (pc' := 47) (cap := 2) rfl (ty := .char) (dv := (.int 0)) rfl rfl (hw _ (List.mem_of_getElem? (i := 20) rfl)) (by decide) (by decide) (by decide) (by decide) (by decide) ?_
        intro T264 h265 cA266 E267 A268 W269
        obtain ⟨a270, g271⟩ : ∃ z, z = h256.size := ⟨_, rfl⟩
        rw [← g271] at A268 W269 ⊢
        have X272 := own_ext_tr E257 E267
        have naa270 : s.heap.size ≤ a270 := by rw [g271]; exact W261.grown
        refine g_dup W269 dP3_47 (pc' := 48) rfl rfl ?_
        refine g_iconst W269 dP3_48 (pc' := 49) rfl (v := 0) rfl ?_
        refine g_iloadN W269 dP3_49 (pc' := 50) rfl rfl ?_
        refine g_castore W269 dP3_50 (pc' := 51) rfl (own_pad0 2 A268) (i := 0) rfl (by decide) (by first | decide | simp) (y := c0) (own_narc b0) (vs' := [(.int c0), (.int (0 : Int32))]) rfl (by simp) (Or.inr naa270) ?_
        intro T273 h274 w275 A276 W277
        have X279 := own_ext_wr E267 w275 (by rw [g271]; exact Nat.le_refl _)
        refine g_dup W277 dP3_51 (pc' := 52) rfl rfl ?_
        refine g_iconst W277 dP3_52 (pc' := 53) rfl (v := 1) rfl ?_
        refine g_iloadN W277 dP3_53 (pc' := 54) rfl rfl ?_
        refine g_castore W277 dP3_54 (pc' := 55) rfl A276 (i := 1) rfl (by decide) (by first | decide | simp) (y := c1) (own_narc b1) (vs' := [(.int c0), (.int c1)]) rfl (by simp) (Or.inr naa270) ?_
        intro T280 h281 w282 A283 W284
        have X286 := own_ext_wr X279 w282 (by rw [g271]; exact Nat.le_refl _)
        have X287 := own_ext_tr E257 X286
        refine g_special W284 dP3_55 (pc' := 58) rfl rfl (hw _ (List.mem_of_getElem? (i := 21) rfl)) (hw _ (List.mem_of_getElem? (i := 22) rfl)) (hw _ (List.mem_of_getElem? (i := 19) rfl)) (hw _ (List.mem_of_getElem? (i := 23) rfl)) (by decide) (con_new1 l Z a0 hw hEL a262 a270 _ [c0, c1] _ _ _ zc 2 h281 (own_ext_tr O X287) SA SH SL zxa262 rfl (by omega) (A258.ext X286) ((D259 (Or.inr (hw _ (List.mem_of_getElem? (i := 65) rfl))) (ty := .array .byte) (by decide)).ext X286) ((D259 (Or.inr (hw _ (List.mem_of_getElem? (i := 63) rfl))) (ty := .byte) (by decide)).ext X286) A283 (own_bbc b0 (own_bbc b1 own_bb0)) SC hzc) pd___C_V (argsL := [(.ref a270)]) (st := [(.ref a262)]) rfl rfl rfl rfl (by decide) (w := 1) (Nat.le_of_eq rfl) (by decide) (by decide) (by decide) (by simp) (fun q hq => Or.inr (by rcases List.mem_cons.mp hq with rfl | hq; exact nxa262; cases List.mem_singleton.mp hq; exact nxa262)) ?_
        intro v288 T289 h290 S293 q291 W294
        have W292 := W294.sf (SF' := [a270, a262]) (fun _ hx => List.mem_append_right _ hx)
        obtain ⟨rfl, K295, S296⟩ := q291
        have Y297 := own_ext_keep X287 K295 (by intro y hy; rw [List.mem_singleton.mp hy, g263]; exact Nat.le_refl _)
        exact g_aret W292 dP3_58 rfl rfl rfl rfl ⟨a262, rfl, Y297, by unfold own_mk; rw [if_neg c187, if_neg c217, if_pos c254]; exact S296⟩
      · skip
        refine g_icY W0 dP3_37 (pc' := 59) (feq c254).2 (by decide) (by decide) ?_
        refine g_new W0 dP3_59 (pc' := 62) rfl (hw _ (List.mem_of_getElem? (i := 17) rfl)) (hw _ (List.mem_of_getElem? (i := 18) rfl)) (hw _ (List.mem_of_getElem? (i := 19) rfl)) (by decide) (by decide) ?_
        intro T298 h299 E300 A301 D302 U303 W304
        obtain ⟨a305, g306⟩ : ∃ z, z = h0.size := ⟨_, rfl⟩
        rw [← g306] at A301 D302 U303 W304 ⊢
        have nxa305 : s.heap.size ≤ a305 := by rw [g306]; exact W0.grown
        have zxa305 : Z.heap.size ≤ a305 := by rw [g306]; exact O.1
        refine g_dup W304 dP3_62 (pc' := 63) rfl rfl ?_
        refine g_iconst W304 dP3_63 (pc' := 64) rfl (v := 3) rfl ?_
        refine g_newP W304 dP3_64 (pc' := 66) (cap := 3) rfl (ty := .char) (dv := (.int 0)) rfl rfl (hw _ (List.mem_of_getElem? (i := 20) rfl)) (by decide) (by decide) (by decide) (by decide) (by decide) ?_
        intro T307 h308 cA309 E310 A311 W312
        obtain ⟨a313, g314⟩ : ∃ z, z = h299.size := ⟨_, rfl⟩
        rw [← g314] at A311 W312 ⊢
        have X315 := own_ext_tr E300 E310
        have naa313 : s.heap.size ≤ a313 := by rw [g314]; exact W304.grown
        refine g_dup W312 dP3_66 (pc' := 67) rfl rfl ?_
        refine g_iconst W312 dP3_67 (pc' := 68) rfl (v := 0) rfl ?_
        refine g_iloadN W312 dP3_68 (pc' := 69) rfl rfl ?_
        refine g_castore W312 dP3_69 (pc' := 70) rfl (own_pad0 3 A311) (i := 0) rfl (by decide) (by first | decide | simp) (y := c0) (own_narc b0) (vs' := [(.int c0), (.int (0 : Int32)), (.int (0 : Int32))]) rfl (by simp) (Or.inr naa313) ?_
        intro T316 h317 w318 A319 W320
        have X322 := own_ext_wr E310 w318 (by rw [g314]; exact Nat.le_refl _)
        refine g_dup W320 dP3_70 (pc' := 71) rfl rfl ?_
        refine g_iconst W320 dP3_71 (pc' := 72) rfl (v := 1) rfl ?_
        refine g_iloadN W320 dP3_72 (pc' := 73) rfl rfl ?_
        refine g_castore W320 dP3_73 (pc' := 74) rfl A319 (i := 1) rfl (by decide) (by first | decide | simp) (y := c1) (own_narc b1) (vs' := [(.int c0), (.int c1), (.int (0 : Int32))]) rfl (by simp) (Or.inr naa313) ?_
        intro T323 h324 w325 A326 W327
        have X329 := own_ext_wr X322 w325 (by rw [g314]; exact Nat.le_refl _)
        refine g_dup W327 dP3_74 (pc' := 75) rfl rfl ?_
        refine g_iconst W327 dP3_75 (pc' := 76) rfl (v := 2) rfl ?_
        refine g_iloadN W327 dP3_76 (pc' := 77) rfl rfl ?_
        refine g_castore W327 dP3_77 (pc' := 78) rfl A326 (i := 2) rfl (by decide) (by first | decide | simp) (y := c2) (own_narc b2) (vs' := [(.int c0), (.int c1), (.int c2)]) rfl (by simp) (Or.inr naa313) ?_
        intro T330 h331 w332 A333 W334
        have X336 := own_ext_wr X329 w332 (by rw [g314]; exact Nat.le_refl _)
        have X337 := own_ext_tr E300 X336
        refine g_special W334 dP3_78 (pc' := 81) rfl rfl (hw _ (List.mem_of_getElem? (i := 21) rfl)) (hw _ (List.mem_of_getElem? (i := 22) rfl)) (hw _ (List.mem_of_getElem? (i := 19) rfl)) (hw _ (List.mem_of_getElem? (i := 23) rfl)) (by decide) (con_new1 l Z a0 hw hEL a305 a313 _ [c0, c1, c2] _ _ _ zc 3 h331 (own_ext_tr O X337) SA SH SL zxa305 rfl (by omega) (A301.ext X336) ((D302 (Or.inr (hw _ (List.mem_of_getElem? (i := 65) rfl))) (ty := .array .byte) (by decide)).ext X336) ((D302 (Or.inr (hw _ (List.mem_of_getElem? (i := 63) rfl))) (ty := .byte) (by decide)).ext X336) A333 (own_bbc b0 (own_bbc b1 (own_bbc b2 own_bb0))) SC hzc) pd___C_V (argsL := [(.ref a313)]) (st := [(.ref a305)]) rfl rfl rfl rfl (by decide) (w := 1) (Nat.le_of_eq rfl) (by decide) (by decide) (by decide) (by simp) (fun q hq => Or.inr (by rcases List.mem_cons.mp hq with rfl | hq; exact nxa305; cases List.mem_singleton.mp hq; exact nxa305)) ?_
        intro v338 T339 h340 S343 q341 W344
        have W342 := W344.sf (SF' := [a313, a305]) (fun _ hx => List.mem_append_right _ hx)
        obtain ⟨rfl, K345, S346⟩ := q341
        have Y347 := own_ext_keep X337 K345 (by intro y hy; rw [List.mem_singleton.mp hy, g306]; exact Nat.le_refl _)
        exact g_aret W342 dP3_81 rfl rfl rfl rfl ⟨a305, rfl, Y347, by unfold own_mk; rw [if_neg c187, if_neg c217, if_neg c254]; exact S346⟩
set_option maxRecDepth 65536 in
set_option maxHeartbeats 4000000 in
theorem con_isl (l : Launch) (Z : State) (a0 : Array Value) (hw : ∀ d ∈ tables_1, d.before a0 Z = true) (hEL : EW Z a0 consts_1) (x : Addr) (cd : Int32) (zc : Int32) (SC : Sta Z Z.heap "java/lang/String" "COMPACT_STRINGS" "Z" (.int zc)) (hzc : ¬ zc = 0) (h0 : Heap) (O : Ext Z.heap h0) (FC : Fld Z h0 x "java/lang/String" "coder" "B" (.int cd)) :
    Ocon l Z consts_1 (⟨"java/lang/String", "isLatin1", "()Z"⟩ : MethodName) jdk_42_method_154_code 1 (some .boolean) [] ({ frames := 0, cells := 0, slots := 0, locals := 0 } : Room) #[(.ref x)] h0 [] [] (fun v h _ => v = some (.int (if cd = 0 then 1 else 0)) ∧ h0 = h) := by
  refine own_con (a0 := a0) hEL (plainFor_of_name pn_java_lang_String) ?_
  intro p e s m below meth c T hs W0
  have ef : entryFrame m #[(.ref x)] 1 = mkF m 0 #[.val (.ref x)] [] := own_entry m [(.ref x)] 1 (by simp [Value.category]) rfl
  rw [ef]
  refine g_getS W0 dP16_0 (pc' := 3) rfl (hw _ (List.mem_of_getElem? (i := 31) rfl)) (SC.ext O) ?_
  intro T349 W348
  refine g_ifN W348 dP16_3 (pc' := 6) (feq hzc).1 rfl ?_
  refine g_aloadN W348 dP16_6 (pc' := 7) rfl rfl rfl ?_
  refine g_getF W348 dP16_7 (pc' := 10) rfl (hw _ (List.mem_of_getElem? (i := 62) rfl)) FC ?_
  intro T351 W350
  by_cases c352 : cd = (0 : Int32)
  · skip
    refine g_ifN W350 dP16_10 (pc' := 13) (teq c352).2 rfl ?_
    refine g_iconst W350 dP16_13 (pc' := 14) rfl (v := 1) rfl ?_
    refine g_goto W350 dP16_14 (pc' := 18) (by decide) (by decide) ?_
    exact g_iret W350 dP16_18 rfl (Or.inr (Or.inl rfl)) rfl ⟨by rw [if_pos c352], rfl⟩
  · skip
    refine g_ifY W350 dP16_10 (pc' := 17) (feq c352).2 (by decide) (by decide) ?_
    refine g_iconst W350 dP16_17 (pc' := 18) rfl (v := 0) rfl ?_
    exact g_iret W350 dP16_18 rfl (Or.inr (Or.inl rfl)) rfl ⟨by rw [if_neg c352], rfl⟩
theorem pn_java_lang_StringLatin1 : plainName "java/lang/StringLatin1" = true := by first | (simp [plainName, overriddenIn]; done) | decide +kernel
set_option maxRecDepth 65536 in
set_option maxHeartbeats 4000000 in
theorem con_lin (l : Launch) (Z : State) (a0 : Array Value) (hw : ∀ d ∈ tables_1, d.before a0 Z = true) (hEL : EW Z a0 consts_1) (t d : Addr) (kb kC : ClassId) (cs : List Int32) (n : Nat) (h0 : Heap) (hn : cs.length = n) (hcap : n ≤ 3) (K : Arv Z h0 t kb .byte (Int32.ofNat n) (cs.map fun c => Value.int (StrChars.lo8 c)) (.int 0)) (D : Arv Z h0 d kC .char (Int32.ofNat n) (List.replicate n (.int 0)) (.int 0)) (hne : t ≠ d) (hb : ∀ c ∈ cs, ¬ c < 0 ∧ ¬ (255 : Int32) < c) :
    Ocon l Z consts_1 (⟨"java/lang/StringLatin1", "inflate", "([BI[CII)V"⟩ : MethodName) jdk_43_method_49_code 6 none [] ({ frames := 0, cells := 0, slots := 0, locals := 0 } : Room) #[(.ref t), (.int (0 : Int32)), (.ref d), (.int (0 : Int32)), (.int (Int32.ofNat n))] h0 [d] ((List.range 3).map fun i => (⟨d, i⟩ : Loc)) (fun v h _ => v = none ∧ Keep h0 h [d] ∧ Arv Z h d kC .char (Int32.ofNat n) (cs.map Value.int) (.int 0)) := by
  refine own_con (a0 := a0) hEL (plainFor_of_name pn_java_lang_StringLatin1) ?_
  intro p e s m below meth c T hs W0
  have hcl : (Int32.ofNat n).toNatClampNeg = n := own_clamp (by omega)
  have loop : ∀ (kk i : Nat) (T : State) (h : Heap), i + kk = n → Keep h0 h [d] → Arv Z h t kb .byte (Int32.ofNat n) (cs.map fun c => Value.int (StrChars.lo8 c)) (.int 0) → Arv Z h d kC .char (Int32.ofNat n) (own_ch cs n i) (.int 0) → Owk p l e ({ frames := 0, cells := 0, slots := 0, locals := 0 } : Room) s m #[(.ref t), (.int (0 : Int32)), (.ref d), (.int (0 : Int32)), (.int (Int32.ofNat n))] below meth c Z a0 consts_1 ((List.range 3).map fun i => (⟨d, i⟩ : Loc)) "java/lang/StringLatin1" "inflate" jdk_43_method_49_code 6 none T h [d] 0 0 → Ogo p l e ({ frames := 0, cells := 0, slots := 0, locals := 0 } : Room) s m #[(.ref t), (.int (0 : Int32)), (.ref d), (.int (0 : Int32)), (.int (Int32.ofNat n))] below meth c Z a0 consts_1 ((List.range 3).map fun i => (⟨d, i⟩ : Loc)) "java/lang/StringLatin1" "inflate" jdk_43_method_49_code 6 none T (mkF m 3 #[.val (.ref t), .val (.int (Int32.ofNat i)), .val (.ref d), .val (.int (Int32.ofNat i)), .val (.int (Int32.ofNat n)), .val (.int (Int32.ofNat i))] []) (fun v h _ => v = none ∧ Keep h0 h [d] ∧ Arv Z h d kC .char (Int32.ofNat n) (cs.map Value.int) (.int 0)) := by
    intro kk
    induction kk with
    | zero =>
      intro i T h hi hK hV hD W0
      obtain rfl : n = i := by omega
      rw [own_chn cs hn] at hD
      refine g_iload W0 dP14_3 (pc' := 5) rfl rfl ?_
      refine g_iload W0 dP14_5 (pc' := 7) rfl rfl ?_
      refine g_icY W0 dP14_7 (pc' := 33) (flt Int32.lt_irrefl).2.1 (by decide) (by decide) ?_
      exact g_return W0 dP14_33 rfl ⟨rfl, hK, hD⟩
    | succ kk ih =>
      intro i T h hi hK hV hD W0
      have hin : i < n := by omega
      have hbi := hb _ (own_mem (i := i) (cs := cs) (by omega))
      refine g_iload W0 dP14_3 (pc' := 5) rfl rfl ?_
      refine g_iload W0 dP14_5 (pc' := 7) rfl rfl ?_
      refine g_icN W0 dP14_7 (pc' := 10) (tlt (own_lt (by omega) hin)).2.1 rfl ?_
      refine g_aloadN W0 dP14_10 (pc' := 11) rfl rfl rfl ?_
      refine g_iloadN W0 dP14_11 (pc' := 12) rfl rfl ?_
      refine g_iinc W0 dP14_12 (pc' := 15) (v := Int32.ofNat (i + 1)) (ls' := #[.val (.ref t), .val (.int (Int32.ofNat i)), .val (.ref d), .val (.int (Int32.ofNat (i + 1))), .val (.int (Int32.ofNat n)), .val (.int (Int32.ofNat i))]) rfl rfl (own_succ i) rfl ?_
      refine g_aloadN W0 dP14_15 (pc' := 16) rfl rfl rfl ?_
      refine g_iloadN W0 dP14_16 (pc' := 17) rfl rfl ?_
      refine g_iinc W0 dP14_17 (pc' := 20) (v := Int32.ofNat (i + 1)) (ls' := #[.val (.ref t), .val (.int (Int32.ofNat (i + 1))), .val (.ref d), .val (.int (Int32.ofNat (i + 1))), .val (.int (Int32.ofNat n)), .val (.int (Int32.ofNat i))]) rfl rfl (own_succ i) rfl ?_
      refine g_baload W0 dP14_20 (pc' := 21) rfl hV (i := i) rfl (by rw [hcl]; exact hin) (v := (.int (StrChars.lo8 (cs.getD i 0)))) (StrChars.Road.low_at _ cs i (by omega)) ?_
      refine g_sipush W0 dP14_21 (pc' := 24) rfl (v := 255) rfl ?_
      refine g_iand W0 dP14_24 (pc' := 25) rfl ?_
      refine g_i2c W0 dP14_25 (pc' := 26) rfl ?_
      rw [show ((StrChars.lo8 (cs.getD i 0)) &&& (255 : Int32)).toUInt32.toUInt16.toUInt32.toInt32 = cs.getD i 0 from StrChars.chr8_lo8 hbi.1 hbi.2]
      refine g_castore W0 dP14_26 (pc' := 27) rfl hD (i := i) rfl (by rw [hcl]; exact hin) (by rw [own_chlen cs hn (by omega)]; exact hin) (own_narc ⟨hbi.1, fun q => hbi.2 (Int32.lt_trans (by decide) q)⟩) (own_chset cs hn hin) (by simp) (Or.inl (by simp; omega)) ?_
      intro T353 h354 w355 A356 W357
      refine g_iinc W357 dP14_27 (pc' := 30) (v := Int32.ofNat (i + 1)) (ls' := #[.val (.ref t), .val (.int (Int32.ofNat (i + 1))), .val (.ref d), .val (.int (Int32.ofNat (i + 1))), .val (.int (Int32.ofNat n)), .val (.int (Int32.ofNat (i + 1)))]) rfl rfl (own_succ i) rfl ?_
      refine g_goto W357 dP14_30 (pc' := 3) (by decide) (by decide) ?_
      exact ih (i + 1) T353 h354 (by omega) (hK.wr w355 (Or.inl (by simp))) (hV.other w355 hne) A356 W357
  have ef : entryFrame m #[(.ref t), (.int (0 : Int32)), (.ref d), (.int (0 : Int32)), (.int (Int32.ofNat n))] 6 = mkF m 0 #[.val (.ref t), .val (.int (0 : Int32)), .val (.ref d), .val (.int (0 : Int32)), .val (.int (Int32.ofNat n)), .unset] [] := own_entry m [(.ref t), (.int (0 : Int32)), (.ref d), (.int (0 : Int32)), (.int (Int32.ofNat n))] 6 (by simp [Value.category]) rfl
  rw [ef]
  refine g_iconst W0 dP14_0 (pc' := 1) rfl (v := 0) rfl ?_
  refine g_istore W0 dP14_1 (pc' := 3) rfl (ls' := #[.val (.ref t), .val (.int (0 : Int32)), .val (.ref d), .val (.int (0 : Int32)), .val (.int (Int32.ofNat n)), .val (.int (0 : Int32))]) rfl ?_
  exact loop n 0 T h0 (by omega) (Keep.refl _ _) K (by rw [own_ch0]; exact D) W0
set_option maxRecDepth 65536 in
set_option maxHeartbeats 4000000 in
theorem con_ltc (l : Launch) (Z : State) (a0 : Array Value) (hw : ∀ d ∈ tables_1, d.before a0 Z = true) (hEL : EW Z a0 consts_1) (t : Addr) (kb : ClassId) (cs : List Int32) (n : Nat) (h0 : Heap) (hn : cs.length = n) (hcap : n ≤ 3) (K : Arv Z h0 t kb .byte (Int32.ofNat n) (cs.map fun c => Value.int (StrChars.lo8 c)) (.int 0)) (hb : ∀ c ∈ cs, ¬ c < 0 ∧ ¬ (255 : Int32) < c) :
    Ocon l Z consts_1 (⟨"java/lang/StringLatin1", "toChars", "([B)[C"⟩ : MethodName) jdk_43_method_9_code 2 (some (.array .char)) [] ({ frames := 1, cells := 1, slots := 3, locals := 17 } : Room) #[(.ref t)] h0 [] [] (fun v h _ => ∃ (a : Addr) (kC : ClassId), v = some (.ref a) ∧ Ext h0 h ∧ h0.size ≤ a ∧ Arv Z h a kC .char (Int32.ofNat n) (cs.map Value.int) (.int 0)) := by
  refine own_con (a0 := a0) hEL (plainFor_of_name pn_java_lang_StringLatin1) ?_
  intro p e s m below meth c T hs W0
  have ef : entryFrame m #[(.ref t)] 2 = mkF m 0 #[.val (.ref t), .unset] [] := own_entry m [(.ref t)] 2 (by simp [Value.category]) rfl
  rw [ef]
  have hcl : (Int32.ofNat n).toNatClampNeg = n := own_clamp (by omega)
  refine g_aloadN W0 dP13_0 (pc' := 1) rfl rfl rfl ?_
  refine g_alen W0 dP13_1 (pc' := 2) rfl K ?_
  refine g_newP W0 dP13_2 (pc' := 4) (cap := 3) rfl (ty := .char) (dv := (.int 0)) rfl rfl (hw _ (List.mem_of_getElem? (i := 20) rfl)) (own_nn (by omega)) (by rw [hcl]; exact hcap) (by decide) (by decide) (by decide) ?_
  intro T358 h359 cA360 E361 A362 W363
  obtain ⟨a364, g365⟩ : ∃ z, z = h0.size := ⟨_, rfl⟩
  rw [← g365] at A362 W363 ⊢
  refine g_astoreN W363 dP13_4 (pc' := 5) rfl (ls' := #[.val (.ref t), .val (.ref a364)]) rfl rfl ?_
  refine g_aloadN W363 dP13_5 (pc' := 6) rfl rfl rfl ?_
  refine g_iconst W363 dP13_6 (pc' := 7) rfl (v := 0) rfl ?_
  refine g_aloadN W363 dP13_7 (pc' := 8) rfl rfl rfl ?_
  refine g_iconst W363 dP13_8 (pc' := 9) rfl (v := 0) rfl ?_
  refine g_aloadN W363 dP13_9 (pc' := 10) rfl rfl rfl ?_
  refine g_alen W363 dP13_10 (pc' := 11) rfl (K.ext E361) ?_
  refine g_static W363 dP13_11 (pc' := 14) rfl (hw _ (List.mem_of_getElem? (i := 154) rfl)) (hw _ (List.mem_of_getElem? (i := 155) rfl)) (hw _ (List.mem_of_getElem? (i := 132) rfl)) (hw _ (List.mem_of_getElem? (i := 156) rfl)) (by decide) (con_lin l Z a0 hw hEL t a364 kb cA360 cs n h359 hn hcap (K.ext E361) (own_pad0 n A362) (Nat.ne_of_lt (by rw [g365]; exact K.lt)) hb) pd___BI_CII_V (argsL := [(.ref t), (.int (0 : Int32)), (.ref a364), (.int (0 : Int32)), (.int (Int32.ofNat n))]) (st := []) rfl rfl rfl rfl (by decide) (w := 0) (Nat.le_of_eq rfl) (by decide) (by decide) (by decide) (by simp) (fun q hq => Or.inr (by obtain ⟨i, -, rfl⟩ := List.mem_map.mp hq; show s.heap.size ≤ a364; rw [g365]; exact W0.grown)) ?_
  intro v366 T367 h368 S371 q369 W372
  have W370 := W372.sf (SF' := [a364]) (fun _ hx => List.mem_append_right _ hx)
  obtain ⟨rfl, hK, hD⟩ := q369
  refine g_aloadN W370 dP13_14 (pc' := 15) rfl rfl rfl ?_
  exact g_aret W370 dP13_15 rfl rfl rfl rfl ⟨a364, _, rfl, own_ext_keep E361 hK (by intro x hx; rw [List.mem_singleton.mp hx, g365]; exact Nat.le_refl _), (by first | exact Nat.le_refl _ | exact Nat.le_of_eq g365.symm), hD⟩
set_option maxRecDepth 65536 in
set_option maxHeartbeats 4000000 in
theorem con_uln (l : Launch) (Z : State) (a0 : Array Value) (hw : ∀ d ∈ tables_1, d.before a0 Z = true) (hEL : EW Z a0 consts_1) (t : Addr) (kb : ClassId) (n : Nat) (vs : List Value) (h0 : Heap) (K : Arv Z h0 t kb .byte (Int32.ofNat (2 * n)) vs (.int 0)) (hn2 : n < 2 ^ 29) :
    Ocon l Z consts_1 (⟨"java/lang/StringUTF16", "length", "([B)I"⟩ : MethodName) jdk_52_method_6_code 1 (some .int) [] ({ frames := 0, cells := 0, slots := 0, locals := 0 } : Room) #[(.ref t)] h0 [] [] (fun v h _ => v = some (.int (Int32.ofNat n)) ∧ h0 = h) := by
  refine own_con (a0 := a0) hEL (plainFor_of_name pn_java_lang_StringUTF16) ?_
  intro p e s m below meth c T hs W0
  have ef : entryFrame m #[(.ref t)] 1 = mkF m 0 #[.val (.ref t)] [] := own_entry m [(.ref t)] 1 (by simp [Value.category]) rfl
  rw [ef]
  refine g_aloadN W0 dP15_0 (pc' := 1) rfl rfl rfl ?_
  refine g_alen W0 dP15_1 (pc' := 2) rfl K ?_
  refine g_iconst W0 dP15_2 (pc' := 3) rfl (v := 1) rfl ?_
  refine g_ishr W0 dP15_3 (pc' := 4) rfl ?_
  rw [StrChars.shr1 (by omega)]
  exact g_iret W0 dP15_4 rfl (Or.inl rfl) rfl ⟨rfl, rfl⟩
theorem pn_jdk_internal_util_Preconditions : plainName "jdk/internal/util/Preconditions" = true := by first | (simp [plainName, overriddenIn]; done) | decide +kernel
set_option maxRecDepth 65536 in
set_option maxHeartbeats 4000000 in
theorem con_pfs (l : Launch) (Z : State) (a0 : Array Value) (hw : ∀ d ∈ tables_1, d.before a0 Z = true) (hEL : EW Z a0 consts_1) (n : Nat) (fm : Value) (hfm : fm.isRef = true) (h0 : Heap) (hn : n < 2 ^ 29) :
    Ocon l Z consts_1 (⟨"jdk/internal/util/Preconditions", "checkFromIndexSize", "(IIILjava/util/function/BiFunction;)I"⟩ : MethodName) jdk_41_method_13_code 4 (some .int) [] ({ frames := 0, cells := 0, slots := 0, locals := 0 } : Room) #[(.int (Int32.ofNat 0)), (.int (Int32.ofNat n)), (.int (Int32.ofNat n)), fm] h0 [] [] (fun v h _ => v = some (.int (Int32.ofNat 0)) ∧ h0 = h) := by
  refine own_con (a0 := a0) hEL (plainFor_of_name pn_jdk_internal_util_Preconditions) ?_
  intro p e s m below meth c T hs W0
  rcases ref_cases hfm with rfl | ⟨fa, rfl⟩
  · skip
    have ef : entryFrame m #[(.int (Int32.ofNat 0)), (.int (Int32.ofNat n)), (.int (Int32.ofNat n)), .null] 4 = mkF m 0 #[.val (.int (Int32.ofNat 0)), .val (.int (Int32.ofNat n)), .val (.int (Int32.ofNat n)), .val .null] [] := own_entry m [(.int (Int32.ofNat 0)), (.int (Int32.ofNat n)), (.int (Int32.ofNat n)), .null] 4 (by simp [Value.category]) rfl
    rw [ef]
    refine g_iloadN W0 dP12_0 (pc' := 1) rfl rfl ?_
    refine g_iloadN W0 dP12_1 (pc' := 2) rfl rfl ?_
    refine g_ior W0 dP12_2 (pc' := 3) rfl ?_
    refine g_iloadN W0 dP12_3 (pc' := 4) rfl rfl ?_
    refine g_ior W0 dP12_4 (pc' := 5) rfl ?_
    refine g_ifN W0 dP12_5 (pc' := 8) (flt (own_or3 (by omega) (by omega) (by omega))).1 rfl ?_
    refine g_iloadN W0 dP12_8 (pc' := 9) rfl rfl ?_
    refine g_iloadN W0 dP12_9 (pc' := 10) rfl rfl ?_
    refine g_iloadN W0 dP12_10 (pc' := 11) rfl rfl ?_
    refine g_isub W0 dP12_11 (pc' := 12) rfl ?_
    refine g_icY W0 dP12_12 (pc' := 23) (flt (by rw [own_sub0]; exact Int32.lt_irrefl)).2.2.2 (by decide) (by decide) ?_
    refine g_iloadN W0 dP12_23 (pc' := 24) rfl rfl ?_
    exact g_iret W0 dP12_24 rfl (Or.inl rfl) rfl ⟨rfl, rfl⟩
  · skip
    have ef : entryFrame m #[(.int (Int32.ofNat 0)), (.int (Int32.ofNat n)), (.int (Int32.ofNat n)), (.ref fa)] 4 = mkF m 0 #[.val (.int (Int32.ofNat 0)), .val (.int (Int32.ofNat n)), .val (.int (Int32.ofNat n)), .val (.ref fa)] [] := own_entry m [(.int (Int32.ofNat 0)), (.int (Int32.ofNat n)), (.int (Int32.ofNat n)), (.ref fa)] 4 (by simp [Value.category]) rfl
    rw [ef]
    refine g_iloadN W0 dP12_0 (pc' := 1) rfl rfl ?_
    refine g_iloadN W0 dP12_1 (pc' := 2) rfl rfl ?_
    refine g_ior W0 dP12_2 (pc' := 3) rfl ?_
    refine g_iloadN W0 dP12_3 (pc' := 4) rfl rfl ?_
    refine g_ior W0 dP12_4 (pc' := 5) rfl ?_
    refine g_ifN W0 dP12_5 (pc' := 8) (flt (own_or3 (by omega) (by omega) (by omega))).1 rfl ?_
    refine g_iloadN W0 dP12_8 (pc' := 9) rfl rfl ?_
    refine g_iloadN W0 dP12_9 (pc' := 10) rfl rfl ?_
    refine g_iloadN W0 dP12_10 (pc' := 11) rfl rfl ?_
    refine g_isub W0 dP12_11 (pc' := 12) rfl ?_
    refine g_icY W0 dP12_12 (pc' := 23) (flt (by rw [own_sub0]; exact Int32.lt_irrefl)).2.2.2 (by decide) (by decide) ?_
    refine g_iloadN W0 dP12_23 (pc' := 24) rfl rfl ?_
    exact g_iret W0 dP12_24 rfl (Or.inl rfl) rfl ⟨rfl, rfl⟩
set_option maxRecDepth 65536 in
set_option maxHeartbeats 4000000 in
theorem con_scb (l : Launch) (Z : State) (a0 : Array Value) (hw : ∀ d ∈ tables_1, d.before a0 Z = true) (hEL : EW Z a0 consts_1) (n : Nat) (fm : Value) (hfm : fm.isRef = true) (SF1 : Sta Z Z.heap "jdk/internal/util/Preconditions" "SIOOBE_FORMATTER" "Ljava/util/function/BiFunction;" fm) (h0 : Heap) (O : Ext Z.heap h0) (hn : n < 2 ^ 29) :
    Ocon l Z consts_1 (⟨"java/lang/String", "checkBoundsOffCount", "(III)I"⟩ : MethodName) jdk_42_method_157_code 3 (some .int) [] ({ frames := 1, cells := 0, slots := 0, locals := 15 } : Room) #[(.int (Int32.ofNat 0)), (.int (Int32.ofNat n)), (.int (Int32.ofNat n))] h0 [] [] (fun v h _ => v = some (.int (Int32.ofNat 0)) ∧ h0 = h) := by
  refine own_con (a0 := a0) hEL (plainFor_of_name pn_java_lang_String) ?_
  intro p e s m below meth c T hs W0
  have ef : entryFrame m #[(.int (Int32.ofNat 0)), (.int (Int32.ofNat n)), (.int (Int32.ofNat n))] 3 = mkF m 0 #[.val (.int (Int32.ofNat 0)), .val (.int (Int32.ofNat n)), .val (.int (Int32.ofNat n))] [] := own_entry m [(.int (Int32.ofNat 0)), (.int (Int32.ofNat n)), (.int (Int32.ofNat n))] 3 (by simp [Value.category]) rfl
  rw [ef]
  refine g_iloadN W0 dP11_0 (pc' := 1) rfl rfl ?_
  refine g_iloadN W0 dP11_1 (pc' := 2) rfl rfl ?_
  refine g_iloadN W0 dP11_2 (pc' := 3) rfl rfl ?_
  refine g_getS W0 dP11_3 (pc' := 6) rfl (hw _ (List.mem_of_getElem? (i := 106) rfl)) (SF1.ext O) ?_
  intro T374 W373
  refine g_static W373 dP11_6 (pc' := 9) rfl (hw _ (List.mem_of_getElem? (i := 108) rfl)) (hw _ (List.mem_of_getElem? (i := 109) rfl)) (hw _ (List.mem_of_getElem? (i := 107) rfl)) (hw _ (List.mem_of_getElem? (i := 110) rfl)) (by decide) (con_pfs l Z a0 hw hEL n fm hfm h0 hn) pd__IIILjava_util_function_BiFunction__I (argsL := [(.int (Int32.ofNat 0)), (.int (Int32.ofNat n)), (.int (Int32.ofNat n)), fm]) (st := []) rfl rfl rfl rfl (by decide) (w := 0) (Nat.le_of_eq rfl) (by decide) (by decide) (by decide) (by simp) (fun q hq => nomatch hq) ?_
  intro v375 T376 h377 S380 q378 W381
  have W379 := W381.sf (SF' := []) (fun _ hx => List.mem_append_right _ hx)
  obtain ⟨rfl, rfl⟩ := q378
  exact g_iret W379 dP11_9 rfl (Or.inl rfl) rfl ⟨rfl, rfl⟩
set_option maxRecDepth 65536 in
set_option maxHeartbeats 4000000 in
theorem con_ucb (l : Launch) (Z : State) (a0 : Array Value) (hw : ∀ d ∈ tables_1, d.before a0 Z = true) (hEL : EW Z a0 consts_1) (t : Addr) (kb : ClassId) (n : Nat) (vs : List Value) (fm : Value) (hfm : fm.isRef = true) (SF1 : Sta Z Z.heap "jdk/internal/util/Preconditions" "SIOOBE_FORMATTER" "Ljava/util/function/BiFunction;" fm) (h0 : Heap) (O : Ext Z.heap h0) (K : Arv Z h0 t kb .byte (Int32.ofNat (2 * n)) vs (.int 0)) (hn2 : n < 2 ^ 29) :
    Ocon l Z consts_1 (⟨"java/lang/StringUTF16", "checkBoundsOffCount", "(II[B)V"⟩ : MethodName) jdk_52_method_94_code 3 none [] ({ frames := 2, cells := 0, slots := 0, locals := 29 } : Room) #[(.int (Int32.ofNat 0)), (.int (Int32.ofNat n)), (.ref t)] h0 [] [] (fun v h _ => v = none ∧ h0 = h) := by
  refine own_con (a0 := a0) hEL (plainFor_of_name pn_java_lang_StringUTF16) ?_
  intro p e s m below meth c T hs W0
  have ef : entryFrame m #[(.int (Int32.ofNat 0)), (.int (Int32.ofNat n)), (.ref t)] 3 = mkF m 0 #[.val (.int (Int32.ofNat 0)), .val (.int (Int32.ofNat n)), .val (.ref t)] [] := own_entry m [(.int (Int32.ofNat 0)), (.int (Int32.ofNat n)), (.ref t)] 3 (by simp [Value.category]) rfl
  rw [ef]
  refine g_iloadN W0 dP10_0 (pc' := 1) rfl rfl ?_
  refine g_iloadN W0 dP10_1 (pc' := 2) rfl rfl ?_
  refine g_aloadN W0 dP10_2 (pc' := 3) rfl rfl rfl ?_
  refine g_static W0 dP10_3 (pc' := 6) rfl (hw _ (List.mem_of_getElem? (i := 100) rfl)) (hw _ (List.mem_of_getElem? (i := 101) rfl)) (hw _ (List.mem_of_getElem? (i := 34) rfl)) (hw _ (List.mem_of_getElem? (i := 102) rfl)) (by decide) (con_uln l Z a0 hw hEL t kb n vs h0 K hn2) pd___B_I (argsL := [(.ref t)]) (st := [(.int (Int32.ofNat n)), (.int (Int32.ofNat 0))]) rfl rfl rfl rfl (by decide) (w := 2) (Nat.le_of_eq rfl) (by decide) (by decide) (by decide) (by simp) (fun q hq => nomatch hq) ?_
  intro v382 T383 h384 S387 q385 W388
  have W386 := W388.sf (SF' := []) (fun _ hx => List.mem_append_right _ hx)
  obtain ⟨rfl, rfl⟩ := q385
  refine g_static W386 dP10_6 (pc' := 9) rfl (hw _ (List.mem_of_getElem? (i := 103) rfl)) (hw _ (List.mem_of_getElem? (i := 104) rfl)) (hw _ (List.mem_of_getElem? (i := 19) rfl)) (hw _ (List.mem_of_getElem? (i := 105) rfl)) (by decide) (con_scb l Z a0 hw hEL n fm hfm SF1 h0 O hn2) pd__III_I (argsL := [(.int (Int32.ofNat 0)), (.int (Int32.ofNat n)), (.int (Int32.ofNat n))]) (st := []) rfl rfl rfl rfl (by decide) (w := 0) (Nat.le_of_eq rfl) (by decide) (by decide) (by decide) (by simp) (fun q hq => nomatch hq) ?_
  intro v389 T390 h391 S394 q392 W395
  have W393 := W395.sf (SF' := []) (fun _ hx => List.mem_append_right _ hx)
  obtain ⟨rfl, rfl⟩ := q392
  refine g_pop W393 dP10_9 (pc' := 10) rfl rfl ?_
  exact g_return W393 dP10_10 rfl ⟨rfl, rfl⟩
set_option maxRecDepth 65536 in
set_option maxHeartbeats 4000000 in
theorem con_ugc (l : Launch) (Z : State) (a0 : Array Value) (hw : ∀ d ∈ tables_1, d.before a0 Z = true) (hEL : EW Z a0 consts_1) (t d : Addr) (kb kC : ClassId) (cs : List Int32) (n : Nat) (fm : Value) (hfm : fm.isRef = true) (SF1 : Sta Z Z.heap "jdk/internal/util/Preconditions" "SIOOBE_FORMATTER" "Ljava/util/function/BiFunction;" fm) (h0 : Heap) (O : Ext Z.heap h0) (SA : Sta Z Z.heap "java/lang/StringUTF16" "$assertionsDisabled" "Z" (.int 1)) (SH : Sta Z Z.heap "java/lang/StringUTF16" "HI_BYTE_SHIFT" "I" (.int 0)) (SL : Sta Z Z.heap "java/lang/StringUTF16" "LO_BYTE_SHIFT" "I" (.int 8)) (hd : Z.heap.size ≤ d) (hn : cs.length = n) (hpos : 0 < n) (hcap : n ≤ 3) (K : Arv Z h0 t kb .byte (Int32.ofNat (2 * n)) (StrChars.Road.wideBytes cs) (.int 0)) (D : Arv Z h0 d kC .char (Int32.ofNat n) (List.replicate n (.int 0)) (.int 0)) (hne : t ≠ d) (hb : ∀ c ∈ cs, ¬ c < 0 ∧ ¬ (65535 : Int32) < c) :
    Ocon l Z consts_1 (⟨"java/lang/StringUTF16", "getChars", "([BII[CI)V"⟩ : MethodName) jdk_52_method_26_code 6 none [] ({ frames := 3, cells := 0, slots := 0, locals := 43 } : Room) #[(.ref t), (.int (Int32.ofNat 0)), (.int (Int32.ofNat n)), (.ref d), (.int (Int32.ofNat 0))] h0 [d] ((List.range 3).map fun i => (⟨d, i⟩ : Loc)) (fun v h _ => v = none ∧ Keep h0 h [d] ∧ Arv Z h d kC .char (Int32.ofNat n) (cs.map Value.int) (.int 0)) := by
  refine own_con (a0 := a0) hEL (plainFor_of_name pn_java_lang_StringUTF16) ?_
  intro p e s m below meth c T hs W0
  have hcl : (Int32.ofNat n).toNatClampNeg = n := own_clamp (by omega)
  have hcl2 : (Int32.ofNat (2 * n)).toNatClampNeg = 2 * n := own_clamp (by omega)
  have loop : ∀ (kk i : Nat) (T : State) (h : Heap), i + kk = n → Keep h0 h [d] → Arv Z h t kb .byte (Int32.ofNat (2 * n)) (StrChars.Road.wideBytes cs) (.int 0) → Arv Z h d kC .char (Int32.ofNat n) (own_ch cs n i) (.int 0) → Owk p l e ({ frames := 3, cells := 0, slots := 0, locals := 43 } : Room) s m #[(.ref t), (.int (Int32.ofNat 0)), (.int (Int32.ofNat n)), (.ref d), (.int (Int32.ofNat 0))] below meth c Z a0 consts_1 ((List.range 3).map fun i => (⟨d, i⟩ : Loc)) "java/lang/StringUTF16" "getChars" jdk_52_method_26_code 6 none T h [d] 0 0 → Ogo p l e ({ frames := 3, cells := 0, slots := 0, locals := 43 } : Room) s m #[(.ref t), (.int (Int32.ofNat 0)), (.int (Int32.ofNat n)), (.ref d), (.int (Int32.ofNat 0))] below meth c Z a0 consts_1 ((List.range 3).map fun i => (⟨d, i⟩ : Loc)) "java/lang/StringUTF16" "getChars" jdk_52_method_26_code 6 none T (mkF m 16 #[.val (.ref t), .val (.int (Int32.ofNat 0)), .val (.int (Int32.ofNat n)), .val (.ref d), .val (.int (Int32.ofNat i)), .val (.int (Int32.ofNat i))] []) (fun v h _ => v = none ∧ Keep h0 h [d] ∧ Arv Z h d kC .char (Int32.ofNat n) (cs.map Value.int) (.int 0)) := by
    intro kk
    induction kk with
    | zero =>
      intro i T h hi hK hV hD W0
      obtain rfl : n = i := by omega
      rw [own_chn cs hn] at hD
      refine g_iload W0 dP9_16 (pc' := 18) rfl rfl ?_
      refine g_iloadN W0 dP9_18 (pc' := 19) rfl rfl ?_
      refine g_icY W0 dP9_19 (pc' := 41) (flt Int32.lt_irrefl).2.1 (by decide) (by decide) ?_
      exact g_return W0 dP9_41 rfl ⟨rfl, hK, hD⟩
    | succ kk ih =>
      intro i T h hi hK hV hD W0
      have hin : i < n := by omega
      have hic : i < cs.length := by omega
      have hbi := hb _ (own_mem hic)
      have O1 := own_ext_keep O hK (by intro y hy; rw [List.mem_singleton.mp hy]; exact hd)
      refine g_iload W0 dP9_16 (pc' := 18) rfl rfl ?_
      refine g_iloadN W0 dP9_18 (pc' := 19) rfl rfl ?_
      refine g_icN W0 dP9_19 (pc' := 22) (tlt (own_lt (by omega) hin)).2.1 rfl ?_
      refine g_aloadN W0 dP9_22 (pc' := 23) rfl rfl rfl ?_
      refine g_iload W0 dP9_23 (pc' := 25) rfl rfl ?_
      refine g_iinc W0 dP9_25 (pc' := 28) (v := Int32.ofNat (i + 1)) (ls' := #[.val (.ref t), .val (.int (Int32.ofNat 0)), .val (.int (Int32.ofNat n)), .val (.ref d), .val (.int (Int32.ofNat (i + 1))), .val (.int (Int32.ofNat i))]) rfl rfl (own_succ i) rfl ?_
      refine g_aloadN W0 dP9_28 (pc' := 29) rfl rfl rfl ?_
      refine g_iload W0 dP9_29 (pc' := 31) rfl rfl ?_
      refine g_static W0 dP9_31 (pc' := 34) rfl (hw _ (List.mem_of_getElem? (i := 56) rfl)) (hw _ (List.mem_of_getElem? (i := 57) rfl)) (hw _ (List.mem_of_getElem? (i := 34) rfl)) (hw _ (List.mem_of_getElem? (i := 58) rfl)) (by decide) (con_getc l Z a0 hw hEL t kb _ _ i (cs.getD i 0) h O1 SA SH SL hV (by rw [hcl2]; omega) (by omega) (own_wide_lo cs hic) (own_wide_hi cs hic) hbi) pd___BI_C (argsL := [(.ref t), (.int (Int32.ofNat i))]) (st := [(.int (Int32.ofNat i)), (.ref d)]) rfl rfl rfl rfl (by decide) (w := 2) (Nat.le_of_eq rfl) (by decide) (by decide) (by decide) (by simp) (fun q hq => nomatch hq) ?_
      intro v396 T397 h398 S401 q399 W402
      have W400 := W402.sf (SF' := [d]) (fun _ hx => List.mem_append_right _ hx)
      obtain ⟨rfl, rfl⟩ := q399
      refine g_castore W400 dP9_34 (pc' := 35) rfl hD (i := i) rfl (by rw [hcl]; exact hin) (by rw [own_chlen cs hn (by omega)]; exact hin) (own_narc hbi) (own_chset cs hn hin) (by simp) (Or.inl (by simp; omega)) ?_
      intro T403 h404 w405 A406 W407
      refine g_iinc W407 dP9_35 (pc' := 38) (v := Int32.ofNat (i + 1)) (ls' := #[.val (.ref t), .val (.int (Int32.ofNat 0)), .val (.int (Int32.ofNat n)), .val (.ref d), .val (.int (Int32.ofNat (i + 1))), .val (.int (Int32.ofNat (i + 1)))]) rfl rfl (own_succ i) rfl ?_
      refine g_goto W407 dP9_38 (pc' := 16) (by decide) (by decide) ?_
      exact ih (i + 1) T403 h404 (by omega) (hK.wr w405 (Or.inl (by simp))) (hV.other w405 hne) A406 W407
  have ef : entryFrame m #[(.ref t), (.int (Int32.ofNat 0)), (.int (Int32.ofNat n)), (.ref d), (.int (Int32.ofNat 0))] 6 = mkF m 0 #[.val (.ref t), .val (.int (Int32.ofNat 0)), .val (.int (Int32.ofNat n)), .val (.ref d), .val (.int (Int32.ofNat 0)), .unset] [] := own_entry m [(.ref t), (.int (Int32.ofNat 0)), (.int (Int32.ofNat n)), (.ref d), (.int (Int32.ofNat 0))] 6 (by simp [Value.category]) rfl
  rw [ef]
  refine g_iloadN W0 dP9_0 (pc' := 1) rfl rfl ?_
  refine g_iloadN W0 dP9_1 (pc' := 2) rfl rfl ?_
  refine g_icN W0 dP9_2 (pc' := 5) (tlt (own_lt (by omega) hpos)).2.1 rfl ?_
  refine g_iloadN W0 dP9_5 (pc' := 6) rfl rfl ?_
  refine g_iloadN W0 dP9_6 (pc' := 7) rfl rfl ?_
  refine g_iloadN W0 dP9_7 (pc' := 8) rfl rfl ?_
  refine g_isub W0 dP9_8 (pc' := 9) rfl ?_
  rw [own_sub0]
  refine g_aloadN W0 dP9_9 (pc' := 10) rfl rfl rfl ?_
  refine g_static W0 dP9_10 (pc' := 13) rfl (hw _ (List.mem_of_getElem? (i := 97) rfl)) (hw _ (List.mem_of_getElem? (i := 98) rfl)) (hw _ (List.mem_of_getElem? (i := 34) rfl)) (hw _ (List.mem_of_getElem? (i := 99) rfl)) (by decide) (con_ucb l Z a0 hw hEL t kb n _ fm hfm SF1 h0 O K (by omega)) pd__II_B_V (argsL := [(.int (Int32.ofNat 0)), (.int (Int32.ofNat n)), (.ref t)]) (st := []) rfl rfl rfl rfl (by decide) (w := 0) (Nat.le_of_eq rfl) (by decide) (by decide) (by decide) (by simp) (fun q hq => nomatch hq) ?_
  intro v408 T409 h410 S413 q411 W414
  have W412 := W414.sf (SF' := [d]) (fun _ hx => List.mem_append_right _ hx)
  obtain ⟨rfl, rfl⟩ := q411
  refine g_iloadN W412 dP9_13 (pc' := 14) rfl rfl ?_
  refine g_istore W412 dP9_14 (pc' := 16) rfl (ls' := #[.val (.ref t), .val (.int (Int32.ofNat 0)), .val (.int (Int32.ofNat n)), .val (.ref d), .val (.int (Int32.ofNat 0)), .val (.int (Int32.ofNat 0))]) rfl ?_
  exact loop n 0 T409 h0 (by omega) (Keep.refl _ _) K (by rw [own_ch0]; exact D) W412
set_option maxRecDepth 65536 in
set_option maxHeartbeats 4000000 in
theorem con_utc (l : Launch) (Z : State) (a0 : Array Value) (hw : ∀ d ∈ tables_1, d.before a0 Z = true) (hEL : EW Z a0 consts_1) (t : Addr) (kb : ClassId) (cs : List Int32) (n : Nat) (fm : Value) (hfm : fm.isRef = true) (SF1 : Sta Z Z.heap "jdk/internal/util/Preconditions" "SIOOBE_FORMATTER" "Ljava/util/function/BiFunction;" fm) (h0 : Heap) (O : Ext Z.heap h0) (SA : Sta Z Z.heap "java/lang/StringUTF16" "$assertionsDisabled" "Z" (.int 1)) (SH : Sta Z Z.heap "java/lang/StringUTF16" "HI_BYTE_SHIFT" "I" (.int 0)) (SL : Sta Z Z.heap "java/lang/StringUTF16" "LO_BYTE_SHIFT" "I" (.int 8)) (hn : cs.length = n) (hpos : 0 < n) (hcap : n ≤ 3) (K : Arv Z h0 t kb .byte (Int32.ofNat (2 * n)) (StrChars.Road.wideBytes cs) (.int 0)) (hb : ∀ c ∈ cs, ¬ c < 0 ∧ ¬ (65535 : Int32) < c) :
    Ocon l Z consts_1 (⟨"java/lang/StringUTF16", "toChars", "([B)[C"⟩ : MethodName) jdk_52_method_13_code 2 (some (.array .char)) [] ({ frames := 4, cells := 1, slots := 3, locals := 60 } : Room) #[(.ref t)] h0 [] [] (fun v h _ => ∃ (a : Addr) (kC : ClassId), v = some (.ref a) ∧ Ext h0 h ∧ h0.size ≤ a ∧ Arv Z h a kC .char (Int32.ofNat n) (cs.map Value.int) (.int 0)) := by
  refine own_con (a0 := a0) hEL (plainFor_of_name pn_java_lang_StringUTF16) ?_
  intro p e s m below meth c T hs W0
  have ef : entryFrame m #[(.ref t)] 2 = mkF m 0 #[.val (.ref t), .unset] [] := own_entry m [(.ref t)] 2 (by simp [Value.category]) rfl
  rw [ef]
  have hcl : (Int32.ofNat n).toNatClampNeg = n := own_clamp (by omega)
  refine g_aloadN W0 dP8_0 (pc' := 1) rfl rfl rfl ?_
  refine g_alen W0 dP8_1 (pc' := 2) rfl K ?_
  refine g_iconst W0 dP8_2 (pc' := 3) rfl (v := 1) rfl ?_
  refine g_ishr W0 dP8_3 (pc' := 4) rfl ?_
  rw [StrChars.shr1 (by omega)]
  refine g_newP W0 dP8_4 (pc' := 6) (cap := 3) rfl (ty := .char) (dv := (.int 0)) rfl rfl (hw _ (List.mem_of_getElem? (i := 20) rfl)) (own_nn (by omega)) (by rw [hcl]; exact hcap) (by decide) (by decide) (by decide) ?_
  intro T415 h416 cA417 E418 A419 W420
  obtain ⟨a421, g422⟩ : ∃ z, z = h0.size := ⟨_, rfl⟩
  rw [← g422] at A419 W420 ⊢
  refine g_astoreN W420 dP8_6 (pc' := 7) rfl (ls' := #[.val (.ref t), .val (.ref a421)]) rfl rfl ?_
  refine g_aloadN W420 dP8_7 (pc' := 8) rfl rfl rfl ?_
  refine g_iconst W420 dP8_8 (pc' := 9) rfl (v := 0) rfl ?_
  refine g_aloadN W420 dP8_9 (pc' := 10) rfl rfl rfl ?_
  refine g_alen W420 dP8_10 (pc' := 11) rfl A419 ?_
  refine g_aloadN W420 dP8_11 (pc' := 12) rfl rfl rfl ?_
  refine g_iconst W420 dP8_12 (pc' := 13) rfl (v := 0) rfl ?_
  refine g_static W420 dP8_13 (pc' := 16) rfl (hw _ (List.mem_of_getElem? (i := 94) rfl)) (hw _ (List.mem_of_getElem? (i := 95) rfl)) (hw _ (List.mem_of_getElem? (i := 34) rfl)) (hw _ (List.mem_of_getElem? (i := 96) rfl)) (by decide) (con_ugc l Z a0 hw hEL t a421 kb cA417 cs n fm hfm SF1 h416 (own_ext_tr O E418) SA SH SL (by rw [g422]; exact O.1) hn hpos hcap (K.ext E418) (own_pad0 n A419) (Nat.ne_of_lt (by rw [g422]; exact K.lt)) hb) pd___BII_CI_V (argsL := [(.ref t), (.int (Int32.ofNat 0)), (.int (Int32.ofNat n)), (.ref a421), (.int (Int32.ofNat 0))]) (st := []) rfl rfl rfl rfl (by decide) (w := 0) (Nat.le_of_eq rfl) (by decide) (by decide) (by decide) (by simp) (fun q hq => Or.inr (by obtain ⟨i, -, rfl⟩ := List.mem_map.mp hq; show s.heap.size ≤ a421; rw [g422]; exact W0.grown)) ?_
  intro v423 T424 h425 S428 q426 W429
  have W427 := W429.sf (SF' := [a421]) (fun _ hx => List.mem_append_right _ hx)
  obtain ⟨rfl, hK, hD⟩ := q426
  refine g_aloadN W427 dP8_16 (pc' := 17) rfl rfl rfl ?_
  exact g_aret W427 dP8_17 rfl rfl rfl rfl ⟨a421, _, rfl, own_ext_keep E418 hK (by intro x hx; rw [List.mem_singleton.mp hx, g422]; exact Nat.le_refl _), (by first | exact Nat.le_refl _ | exact Nat.le_of_eq g422.symm), hD⟩
set_option maxRecDepth 65536 in
set_option maxHeartbeats 4000000 in
theorem con_tca (l : Launch) (Z : State) (a0 : Array Value) (hw : ∀ d ∈ tables_1, d.before a0 Z = true) (hEL : EW Z a0 consts_1) (x : Addr) (cs : List Int32) (zc : Int32) (SC : Sta Z Z.heap "java/lang/String" "COMPACT_STRINGS" "Z" (.int zc)) (hzc : ¬ zc = 0) (fm : Value) (hfm : fm.isRef = true) (SF1 : Sta Z Z.heap "jdk/internal/util/Preconditions" "SIOOBE_FORMATTER" "Ljava/util/function/BiFunction;" fm) (h0 : Heap) (O : Ext Z.heap h0) (SA : Sta Z Z.heap "java/lang/StringUTF16" "$assertionsDisabled" "Z" (.int 1)) (SH : Sta Z Z.heap "java/lang/StringUTF16" "HI_BYTE_SHIFT" "I" (.int 0)) (SL : Sta Z Z.heap "java/lang/StringUTF16" "LO_BYTE_SHIFT" "I" (.int 8)) (S : OStr Z h0 x cs) (hl : cs.length ≤ 3) :
    Ocon l Z consts_1 (⟨"java/lang/String", "toCharArray", "()[C"⟩ : MethodName) jdk_42_method_129_code 1 (some (.array .char)) [] ({ frames := 5, cells := 1, slots := 3, locals := 73 } : Room) #[(.ref x)] h0 [] [] (fun v h _ => ∃ (a : Addr) (kC : ClassId), v = some (.ref a) ∧ Ext h0 h ∧ h0.size ≤ a ∧ Arv Z h a kC .char (Int32.ofNat cs.length) (cs.map Value.int) (.int 0)) := by
  refine own_con (a0 := a0) hEL (plainFor_of_name pn_java_lang_String) ?_
  intro p e s m below meth c T hs W0
  obtain ⟨sE, hb, t, kb, cd, N2, vs, FV, FC, K, CA⟩ := S
  have ef : entryFrame m #[(.ref x)] 1 = mkF m 0 #[.val (.ref x)] [] := own_entry m [(.ref x)] 1 (by simp [Value.category]) rfl
  rw [ef]
  refine g_aloadN W0 dP7_0 (pc' := 1) rfl rfl rfl ?_
  refine g_virtual W0 dP7_1 (pc' := 4) (C := "java/lang/String") rfl (hw _ (List.mem_of_getElem? (i := 86) rfl)) (hw _ (List.mem_of_getElem? (i := 87) rfl)) (hw _ (List.mem_of_getElem? (i := 89) rfl)) (hw _ (List.mem_of_getElem? (i := 89) rfl)) (hw _ (List.mem_of_getElem? (i := 88) rfl)) (hw _ (List.mem_of_getElem? (i := 19) rfl)) (hw _ (List.mem_of_getElem? (i := 90) rfl)) (by decide) sE (con_isl l Z a0 hw hEL x cd zc SC hzc h0 O FC) pd___Z (argsL := []) (st := []) rfl rfl rfl rfl (by decide) (w := 0) (Nat.le_of_eq rfl) (by decide) (by decide) (by decide) (by simp) (fun q hq => nomatch hq) ?_
  intro v430 T431 h432 S435 q433 W436
  have W434 := W436.sf (SF' := []) (fun _ hx => List.mem_append_right _ hx)
  obtain ⟨rfl, rfl⟩ := q433
  rcases CA with ⟨rfl, rfl, rfl, hlt⟩ | ⟨rfl, rfl, rfl, c9, hc9, -⟩
  · skip
    refine g_ifN W434 dP7_4 (pc' := 7) (by decide) rfl ?_
    refine g_aloadN W434 dP7_7 (pc' := 8) rfl rfl rfl ?_
    refine g_getF W434 dP7_8 (pc' := 11) rfl (hw _ (List.mem_of_getElem? (i := 64) rfl)) FV ?_
    intro T438 W437
    refine g_static W437 dP7_11 (pc' := 14) rfl (hw _ (List.mem_of_getElem? (i := 151) rfl)) (hw _ (List.mem_of_getElem? (i := 152) rfl)) (hw _ (List.mem_of_getElem? (i := 132) rfl)) (hw _ (List.mem_of_getElem? (i := 153) rfl)) (by decide) (con_ltc l Z a0 hw hEL t kb cs cs.length h0 rfl hl K (fun c hc => ⟨(hb c hc).1, hlt c hc⟩)) pd___B__C (argsL := [(.ref t)]) (st := []) rfl rfl rfl rfl (by decide) (w := 0) (Nat.le_of_eq rfl) (by decide) (by decide) (by decide) (by simp) (fun q hq => nomatch hq) ?_
    intro v439 T440 h441 S444 q442 W445
    have W443 := W445.sf (SF' := []) (fun _ hx => List.mem_append_right _ hx)
    obtain ⟨a1, k1, rfl, X, na, A⟩ := q442
    refine g_goto W443 dP7_14 (pc' := 24) (by decide) (by decide) ?_
    exact g_aret W443 dP7_24 rfl rfl rfl rfl ⟨a1, k1, rfl, X, na, A⟩
  · skip
    refine g_ifY W434 dP7_4 (pc' := 17) (by decide) (by decide) (by decide) ?_
    refine g_aloadN W434 dP7_17 (pc' := 18) rfl rfl rfl ?_
    refine g_getF W434 dP7_18 (pc' := 21) rfl (hw _ (List.mem_of_getElem? (i := 64) rfl)) FV ?_
    intro T447 W446
    refine g_static W446 dP7_21 (pc' := 24) rfl (hw _ (List.mem_of_getElem? (i := 91) rfl)) (hw _ (List.mem_of_getElem? (i := 92) rfl)) (hw _ (List.mem_of_getElem? (i := 34) rfl)) (hw _ (List.mem_of_getElem? (i := 93) rfl)) (by decide) (con_utc l Z a0 hw hEL t kb cs cs.length fm hfm SF1 h0 O SA SH SL rfl (List.length_pos_of_mem hc9) hl K hb) pd___B__C (argsL := [(.ref t)]) (st := []) rfl rfl rfl rfl (by decide) (w := 0) (Nat.le_of_eq rfl) (by decide) (by decide) (by decide) (by simp) (fun q hq => nomatch hq) ?_
    intro v448 T449 h450 S453 q451 W454
    have W452 := W454.sf (SF' := []) (fun _ hx => List.mem_append_right _ hx)
    obtain ⟨a1, k1, rfl, X, na, A⟩ := q451
    exact g_aret W452 dP7_24 rfl rfl rfl rfl ⟨a1, k1, rfl, X, na, A⟩
theorem pn_com_example_tabent_tabent_query_Token : plainName "com/example/tabent/tabent/query/Token" = true := by first | (simp [plainName, overriddenIn]; done) | decide +kernel
set_option maxRecDepth 65536 in
set_option maxHeartbeats 4000000 in
theorem con_auc (l : Launch) (Z : State) (a0 : Array Value) (hw : ∀ d ∈ tables_1, d.before a0 Z = true) (hEL : EW Z a0 consts_1) (x : Addr) (cs : List Int32) (zc : Int32) (SC : Sta Z Z.heap "java/lang/String" "COMPACT_STRINGS" "Z" (.int zc)) (hzc : ¬ zc = 0) (fm : Value) (hfm : fm.isRef = true) (SF1 : Sta Z Z.heap "jdk/internal/util/Preconditions" "SIOOBE_FORMATTER" "Ljava/util/function/BiFunction;" fm) (h0 : Heap) (O : Ext Z.heap h0) (SA : Sta Z Z.heap "java/lang/StringUTF16" "$assertionsDisabled" "Z" (.int 1)) (SH : Sta Z Z.heap "java/lang/StringUTF16" "HI_BYTE_SHIFT" "I" (.int 0)) (SL : Sta Z Z.heap "java/lang/StringUTF16" "LO_BYTE_SHIFT" "I" (.int 8)) (S : OStr Z h0 x cs) (hl : cs.length ≤ 3) :
    Ocon l Z consts_1 (⟨"com/example/tabent/tabent/query/Token", "asciiUpperCase", "(Ljava/lang/String;)Ljava/lang/String;"⟩ : MethodName) prog_8_method_10_code 3 (some (.object "java/lang/String")) [] ({ frames := 6, cells := 6, slots := 24, locals := 88 } : Room) #[(.ref x)] h0 [] [] (fun v h _ => ∃ y, v = some (.ref y) ∧ Ext h0 h ∧ OStr Z h y (cs.map own_up)) := by
  refine own_con (a0 := a0) hEL (plainFor_of_name pn_com_example_tabent_tabent_query_Token) ?_
  intro p e s m below meth c T hs W0
  have hb := S.2.1
  have hcl : (Int32.ofNat cs.length).toNatClampNeg = cs.length := own_clamp (by omega)
  have loop : ∀ (d : Addr) (kC : ClassId) (kk i : Nat) (T : State) (h : Heap), h0.size ≤ d → i + kk = cs.length → Ext h0 h → Arv Z h d kC .char (Int32.ofNat cs.length) ((own_us cs i).map Value.int) (.int 0) → Owk p l e ({ frames := 6, cells := 6, slots := 24, locals := 88 } : Room) s m #[(.ref x)] below meth c Z a0 consts_1 [] "com/example/tabent/tabent/query/Token" "asciiUpperCase" prog_8_method_10_code 3 (some (.object "java/lang/String")) T h [d] 1 3 → Ogo p l e ({ frames := 6, cells := 6, slots := 24, locals := 88 } : Room) s m #[(.ref x)] below meth c Z a0 consts_1 [] "com/example/tabent/tabent/query/Token" "asciiUpperCase" prog_8_method_10_code 3 (some (.object "java/lang/String")) T (mkF m 7 #[.val (.ref x), .val (.ref d), .val (.int (Int32.ofNat i))] []) (fun v h _ => ∃ y, v = some (.ref y) ∧ Ext h0 h ∧ OStr Z h y (cs.map own_up)) := by
    intro d kC kk
    induction kk with
    | zero =>
      intro i T h hd hi X hD W0
      obtain rfl : i = cs.length := by omega
      rw [own_usn] at hD
      have O1 := own_ext_tr O X
      refine g_iloadN W0 dP5_7 (pc' := 8) rfl rfl ?_
      refine g_aloadN W0 dP5_8 (pc' := 9) rfl rfl rfl ?_
      refine g_alen W0 dP5_9 (pc' := 10) rfl hD ?_
      refine g_icY W0 dP5_10 (pc' := 48) (flt Int32.lt_irrefl).2.1 (by decide) (by decide) ?_
      refine g_new W0 dP5_48 (pc' := 51) rfl (hw _ (List.mem_of_getElem? (i := 111) rfl)) (hw _ (List.mem_of_getElem? (i := 18) rfl)) (hw _ (List.mem_of_getElem? (i := 19) rfl)) (by decide) (by decide) ?_
      intro T455 h456 E457 A458 D459 U460 W461
      obtain ⟨a462, g463⟩ : ∃ z, z = h.size := ⟨_, rfl⟩
      rw [← g463] at A458 D459 U460 W461 ⊢
      have nx : s.heap.size ≤ a462 := by rw [g463]; exact W0.grown
      have zx : Z.heap.size ≤ a462 := by rw [g463]; exact O1.1
      refine g_dup W461 dP5_51 (pc' := 52) rfl rfl ?_
      refine g_aloadN W461 dP5_52 (pc' := 53) rfl rfl rfl ?_
      refine g_special W461 dP5_53 (pc' := 56) rfl rfl (hw _ (List.mem_of_getElem? (i := 112) rfl)) (hw _ (List.mem_of_getElem? (i := 22) rfl)) (hw _ (List.mem_of_getElem? (i := 19) rfl)) (hw _ (List.mem_of_getElem? (i := 23) rfl)) (by decide) (con_new1 l Z a0 hw hEL a462 d kC (cs.map own_up) _ _ _ zc cs.length h456 (own_ext_tr O1 E457) SA SH SL zx (List.length_map _) hl A458 (D459 (Or.inr (hw _ (List.mem_of_getElem? (i := 65) rfl))) (ty := .array .byte) (by decide)) (D459 (Or.inr (hw _ (List.mem_of_getElem? (i := 63) rfl))) (ty := .byte) (by decide)) (hD.ext E457) (own_upall hb) SC hzc) pd___C_V (argsL := [(.ref d)]) (st := [(.ref a462)]) rfl rfl rfl rfl (by decide) (w := 1) (Nat.le_of_eq rfl) (by decide) (by decide) (by decide) (by simp) (fun q hq => Or.inr (by rcases List.mem_cons.mp hq with rfl | hq; exact nx; cases List.mem_singleton.mp hq; exact nx)) ?_
      intro v464 T465 h466 S469 q467 W470
      have W468 := W470.sf (SF' := [a462, d]) (fun _ hx => List.mem_append_right _ hx)
      obtain ⟨rfl, qK, qS⟩ := q467
      have X3 := own_ext_keep E457 qK (by intro y hy; rw [List.mem_singleton.mp hy, g463]; exact Nat.le_refl _)
      exact g_aret W468 dP5_56 rfl rfl rfl rfl ⟨a462, rfl, own_ext_tr X X3, qS⟩
    | succ kk ih =>
      intro i T h hd hi X hD W0
      have hin : i < cs.length := by omega
      have hbi : own_bd (cs.getD i 0) := hb _ (own_mem hin)
      have hg : ((own_us cs i).map Value.int).getD i (.int 0) = .int (cs.getD i 0) := by rw [own_getI _ _ (by rw [own_uslen cs (by omega)]; exact hin), own_usget cs hin]
      refine g_iloadN W0 dP5_7 (pc' := 8) rfl rfl ?_
      refine g_aloadN W0 dP5_8 (pc' := 9) rfl rfl rfl ?_
      refine g_alen W0 dP5_9 (pc' := 10) rfl hD ?_
      refine g_icN W0 dP5_10 (pc' := 13) (tlt (own_lt (by omega) hin)).2.1 rfl ?_
      refine g_aloadN W0 dP5_13 (pc' := 14) rfl rfl rfl ?_
      refine g_iloadN W0 dP5_14 (pc' := 15) rfl rfl ?_
      refine g_caload W0 dP5_15 (pc' := 16) rfl hD (i := i) rfl (by rw [hcl]; exact hin) (v := (.int (cs.getD i 0))) hg ?_
      refine g_bipush W0 dP5_16 (pc' := 18) rfl (v := 97) rfl ?_
      by_cases c471 : (cs.getD i 0) < (97 : Int32)
      · skip
        refine g_icY W0 dP5_18 (pc' := 42) (tlt c471).1 (by decide) (by decide) ?_
        refine g_iinc W0 dP5_42 (pc' := 45) (v := Int32.ofNat (i + 1)) (ls' := #[.val (.ref x), .val (.ref d), .val (.int (Int32.ofNat (i + 1)))]) rfl rfl (own_succ i) rfl ?_
        refine g_goto W0 dP5_45 (pc' := 7) (by decide) (by decide) ?_
        exact ih (i + 1) T h hd (by omega) X (by rw [← own_uskeep cs hin (by unfold own_up; rw [if_pos c471])]; exact hD) W0
      · skip
        refine g_icN W0 dP5_18 (pc' := 21) (flt c471).1 rfl ?_
        refine g_aloadN W0 dP5_21 (pc' := 22) rfl rfl rfl ?_
        refine g_iloadN W0 dP5_22 (pc' := 23) rfl rfl ?_
        refine g_caload W0 dP5_23 (pc' := 24) rfl hD (i := i) rfl (by rw [hcl]; exact hin) (v := (.int (cs.getD i 0))) hg ?_
        refine g_bipush W0 dP5_24 (pc' := 26) rfl (v := 122) rfl ?_
        by_cases c472 : (122 : Int32) < (cs.getD i 0)
        · skip
          refine g_icY W0 dP5_26 (pc' := 42) (tlt c472).2.2.1 (by decide) (by decide) ?_
          refine g_iinc W0 dP5_42 (pc' := 45) (v := Int32.ofNat (i + 1)) (ls' := #[.val (.ref x), .val (.ref d), .val (.int (Int32.ofNat (i + 1)))]) rfl rfl (own_succ i) rfl ?_
          refine g_goto W0 dP5_45 (pc' := 7) (by decide) (by decide) ?_
          exact ih (i + 1) T h hd (by omega) X (by rw [← own_uskeep cs hin (by unfold own_up; rw [if_neg c471, if_pos c472])]; exact hD) W0
        · skip
          refine g_icN W0 dP5_26 (pc' := 29) (flt c472).2.2.1 rfl ?_
          refine g_aloadN W0 dP5_29 (pc' := 30) rfl rfl rfl ?_
          refine g_iloadN W0 dP5_30 (pc' := 31) rfl rfl ?_
          refine g_aloadN W0 dP5_31 (pc' := 32) rfl rfl rfl ?_
          refine g_iloadN W0 dP5_32 (pc' := 33) rfl rfl ?_
          refine g_caload W0 dP5_33 (pc' := 34) rfl hD (i := i) rfl (by rw [hcl]; exact hin) (v := (.int (cs.getD i 0))) hg ?_
          refine g_bipush W0 dP5_34 (pc' := 36) rfl (v := 97) rfl ?_
          refine g_isub W0 dP5_36 (pc' := 37) rfl ?_
          refine g_bipush W0 dP5_37 (pc' := 39) rfl (v := 65) rfl ?_
          refine g_iadd W0 dP5_39 (pc' := 40) rfl ?_
          refine g_i2c W0 dP5_40 (pc' := 41) rfl ?_
          rw [own_up2 c471 c472 hbi]
          refine g_castore W0 dP5_41 (pc' := 42) rfl hD (i := i) rfl (by rw [hcl]; exact hin) (by rw [List.length_map, own_uslen cs (by omega)]; exact hin) (own_narc (own_up_bd hbi)) (vs' := (own_us cs (i + 1)).map Value.int) (by rw [← own_usset cs hin, List.map_set]) (by simp) (Or.inr (by rw [hs]; exact hd)) ?_
          intro T473 h474 w475 A476 W477
          refine g_iinc W477 dP5_42 (pc' := 45) (v := Int32.ofNat (i + 1)) (ls' := #[.val (.ref x), .val (.ref d), .val (.int (Int32.ofNat (i + 1)))]) rfl rfl (own_succ i) rfl ?_
          refine g_goto W477 dP5_45 (pc' := 7) (by decide) (by decide) ?_
          exact ih (i + 1) T473 h474 hd (by omega) (own_ext_wr X w475 hd) A476 W477
  have ef : entryFrame m #[(.ref x)] 3 = mkF m 0 #[.val (.ref x), .unset, .unset] [] := own_entry m [(.ref x)] 3 (by simp [Value.category]) rfl
  rw [ef]
  refine g_aloadN W0 dP5_0 (pc' := 1) rfl rfl rfl ?_
  refine g_virtual W0 dP5_1 (pc' := 4) (C := "java/lang/String") rfl (hw _ (List.mem_of_getElem? (i := 81) rfl)) (hw _ (List.mem_of_getElem? (i := 82) rfl)) (hw _ (List.mem_of_getElem? (i := 84) rfl)) (hw _ (List.mem_of_getElem? (i := 84) rfl)) (hw _ (List.mem_of_getElem? (i := 83) rfl)) (hw _ (List.mem_of_getElem? (i := 19) rfl)) (hw _ (List.mem_of_getElem? (i := 85) rfl)) (by decide) S.1 (con_tca l Z a0 hw hEL x cs zc SC hzc fm hfm SF1 h0 O SA SH SL S hl) pd____C (argsL := []) (st := []) rfl rfl rfl rfl (by decide) (w := 0) (Nat.le_of_eq rfl) (by decide) (by decide) (by decide) (by simp) (fun q hq => nomatch hq) ?_
  intro v478 T479 h480 S483 q481 W484
  have W482 := W484.sf (SF' := []) (fun _ hx => List.mem_append_right _ hx)
  obtain ⟨d, kC, rfl, X, hd, A⟩ := q481
  refine g_astoreN W482 dP5_4 (pc' := 5) rfl (ls' := #[.val (.ref x), .val (.ref d), .unset]) rfl rfl ?_
  refine g_iconst W482 dP5_5 (pc' := 6) rfl (v := 0) rfl ?_
  refine g_istoreN W482 dP5_6 (pc' := 7) rfl (ls' := #[.val (.ref x), .val (.ref d), .val (.int (0 : Int32))]) rfl ?_
  exact loop d kC cs.length 0 T479 h480 hd (by omega) X (by rw [own_us0]; exact A) (W482.add A (by decide))
theorem OStr.wrE {Z : State} {h h' : Heap} {x y : Addr} {C : String} {cs : List Int32} {sl kI : Nat} {v : Value} {a0 : Array Value} (S : OStr Z h y cs) (W : Wr h h' x sl v) (E : Exa Z h x C) (hC : C ≠ "java/lang/String") (wi : (Jvm.Cond.instantiable C kI).before a0 Z = true) : OStr Z h' y cs := by
  obtain ⟨s1, s2, t, kb, cd, N2, vs, s3, s4, s5, s6⟩ := S
  have n1 : y ≠ x := Ne.symm (ne_exa E s1 hC)
  have n2 : t ≠ x := by
    obtain ⟨cl, A1, -⟩ := s5
    exact Ne.symm (ne_arr E wi A1)
  exact ⟨s1.wr W, s2, t, kb, cd, N2, vs, s3.other W (Or.inl n1), s4.other W (Or.inl n1), s5.other W n2, s6⟩
theorem own_and3 (x : Int32) : (x &&& 3) = 0 ∨ (x &&& 3) = 1 ∨ (x &&& 3) = 2 ∨ (x &&& 3) = 3 := by
  have q := c_and x 3 (by decide)
  rw [show (3 : Int32).toInt = 3 from rfl] at q
  have e0 : (0 : Int32).toInt = 0 := rfl
  have e1 : (1 : Int32).toInt = 1 := rfl
  have e2 : (2 : Int32).toInt = 2 := rfl
  have e3 : (3 : Int32).toInt = 3 := rfl
  rw [← Int32.toInt_inj, ← Int32.toInt_inj, ← Int32.toInt_inj, ← Int32.toInt_inj]
  omega
def own_exp (tl kl t0 t1 t2 c0 c1 c2 : Int32) : Prop := kl = tl ∧ (tl < 1 ∨ own_up t0 = c0) ∧ (tl < 2 ∨ own_up t1 = c1) ∧ (tl < 3 ∨ own_up t2 = c2)
theorem own_ex {tl kl t0 t1 t2 c0 c1 c2 : Int32} (h1 : tl = 0 ∨ tl = 1 ∨ tl = 2 ∨ tl = 3) (h2 : kl = 0 ∨ kl = 1 ∨ kl = 2 ∨ kl = 3) : (own_mk tl t0 t1 t2).map own_up = own_mk kl c0 c1 c2 ↔ own_exp tl kl t0 t1 t2 c0 c1 c2 := by
  rcases h1 with rfl | rfl | rfl | rfl <;> rcases h2 with rfl | rfl | rfl | rfl <;> simp [own_mk, own_exp]
set_option maxRecDepth 65536 in
set_option maxHeartbeats 4000000 in
theorem con_tin (l : Launch) (Z : State) (a0 : Array Value) (hw : ∀ d ∈ tables_1, d.before a0 Z = true) (hEL : EW Z a0 consts_1) (x ka sx k0 : Addr) (pos : Int32) (cs : List Int32) (zc : Int32) (SC : Sta Z Z.heap "java/lang/String" "COMPACT_STRINGS" "Z" (.int zc)) (hzc : ¬ zc = 0) (fm : Value) (hfm : fm.isRef = true) (SF1 : Sta Z Z.heap "jdk/internal/util/Preconditions" "SIOOBE_FORMATTER" "Ljava/util/function/BiFunction;" fm) (h0 : Heap) (O : Ext Z.heap h0) (SA : Sta Z Z.heap "java/lang/StringUTF16" "$assertionsDisabled" "Z" (.int 1)) (SH : Sta Z Z.heap "java/lang/StringUTF16" "HI_BYTE_SHIFT" "I" (.int 0)) (SL : Sta Z Z.heap "java/lang/StringUTF16" "LO_BYTE_SHIFT" "I" (.int 8)) (SK0 : Sta Z Z.heap "com/example/tabent/tabent/query/Token$Kind" "WORD" "Lcom/example/tabent/tabent/query/Token$Kind;" (.ref k0)) (zx : Z.heap.size ≤ x) (E : Exa Z h0 x "com/example/tabent/tabent/query/Token") (U : Unt h0 x) (S : OStr Z h0 sx cs) (hl : cs.length ≤ 3) :
    Ocon l Z consts_1 (⟨"com/example/tabent/tabent/query/Token", "<init>", "(Lcom/example/tabent/tabent/query/Token$Kind;Ljava/lang/String;Ljava/lang/Object;I)V"⟩ : MethodName) prog_8_method_1_code 5 none [] ({ frames := 7, cells := 6, slots := 24, locals := 104 } : Room) #[(.ref x), (.ref ka), (.ref sx), .null, (.int pos)] h0 [x] [(⟨x, RoadKit.slotOf Z "com/example/tabent/tabent/query/Token" "kind" "Lcom/example/tabent/tabent/query/Token$Kind;"⟩ : Loc), (⟨x, RoadKit.slotOf Z "com/example/tabent/tabent/query/Token" "text" "Ljava/lang/String;"⟩ : Loc), (⟨x, RoadKit.slotOf Z "com/example/tabent/tabent/query/Token" "keyword" "Ljava/lang/String;"⟩ : Loc), (⟨x, RoadKit.slotOf Z "com/example/tabent/tabent/query/Token" "value" "Ljava/lang/Object;"⟩ : Loc), (⟨x, RoadKit.slotOf Z "com/example/tabent/tabent/query/Token" "position" "I"⟩ : Loc)] (fun v h _ => v = none ∧ Keep h0 h [x] ∧ Exa Z h x "com/example/tabent/tabent/query/Token" ∧ Fld Z h x "com/example/tabent/tabent/query/Token" "kind" "Lcom/example/tabent/tabent/query/Token$Kind;" (.ref ka) ∧ ∃ kw, Fld Z h x "com/example/tabent/tabent/query/Token" "keyword" "Ljava/lang/String;" (.ref kw) ∧ (ka = k0 → OStr Z h kw (cs.map own_up))) := by
  refine own_con (a0 := a0) hEL (plainFor_of_name pn_com_example_tabent_tabent_query_Token) ?_
  intro p e s m below meth c T hs W0
  have n_kind_text : RoadKit.slotOf Z "com/example/tabent/tabent/query/Token" "kind" "Lcom/example/tabent/tabent/query/Token$Kind;" ≠ RoadKit.slotOf Z "com/example/tabent/tabent/query/Token" "text" "Ljava/lang/String;" := (slot_ne (t := .object "com/example/tabent/tabent/query/Token$Kind") (t' := .object "java/lang/String") (Or.inr (hw _ (List.mem_of_getElem? (i := 74) rfl))) (Or.inr (hw _ (List.mem_of_getElem? (i := 76) rfl))) (by decide) (by decide) (by decide))
  have n_kind_keyword : RoadKit.slotOf Z "com/example/tabent/tabent/query/Token" "kind" "Lcom/example/tabent/tabent/query/Token$Kind;" ≠ RoadKit.slotOf Z "com/example/tabent/tabent/query/Token" "keyword" "Ljava/lang/String;" := (slot_ne (t := .object "com/example/tabent/tabent/query/Token$Kind") (t' := .object "java/lang/String") (Or.inr (hw _ (List.mem_of_getElem? (i := 74) rfl))) (Or.inr (hw _ (List.mem_of_getElem? (i := 114) rfl))) (by decide) (by decide) (by decide))
  have n_kind_value : RoadKit.slotOf Z "com/example/tabent/tabent/query/Token" "kind" "Lcom/example/tabent/tabent/query/Token$Kind;" ≠ RoadKit.slotOf Z "com/example/tabent/tabent/query/Token" "value" "Ljava/lang/Object;" := (slot_ne (t := .object "com/example/tabent/tabent/query/Token$Kind") (t' := .object "java/lang/Object") (Or.inr (hw _ (List.mem_of_getElem? (i := 74) rfl))) (Or.inr (hw _ (List.mem_of_getElem? (i := 116) rfl))) (by decide) (by decide) (by decide))
  have n_kind_position : RoadKit.slotOf Z "com/example/tabent/tabent/query/Token" "kind" "Lcom/example/tabent/tabent/query/Token$Kind;" ≠ RoadKit.slotOf Z "com/example/tabent/tabent/query/Token" "position" "I" := (slot_ne (t := .object "com/example/tabent/tabent/query/Token$Kind") (t' := .int) (Or.inr (hw _ (List.mem_of_getElem? (i := 74) rfl))) (Or.inr (hw _ (List.mem_of_getElem? (i := 118) rfl))) (by decide) (by decide) (by decide))
  have n_keyword_value : RoadKit.slotOf Z "com/example/tabent/tabent/query/Token" "keyword" "Ljava/lang/String;" ≠ RoadKit.slotOf Z "com/example/tabent/tabent/query/Token" "value" "Ljava/lang/Object;" := (slot_ne (t := .object "java/lang/String") (t' := .object "java/lang/Object") (Or.inr (hw _ (List.mem_of_getElem? (i := 114) rfl))) (Or.inr (hw _ (List.mem_of_getElem? (i := 116) rfl))) (by decide) (by decide) (by decide))
  have n_keyword_position : RoadKit.slotOf Z "com/example/tabent/tabent/query/Token" "keyword" "Ljava/lang/String;" ≠ RoadKit.slotOf Z "com/example/tabent/tabent/query/Token" "position" "I" := (slot_ne (t := .object "java/lang/String") (t' := .int) (Or.inr (hw _ (List.mem_of_getElem? (i := 114) rfl))) (Or.inr (hw _ (List.mem_of_getElem? (i := 118) rfl))) (by decide) (by decide) (by decide))
  have ef : entryFrame m #[(.ref x), (.ref ka), (.ref sx), .null, (.int pos)] 5 = mkF m 0 #[.val (.ref x), .val (.ref ka), .val (.ref sx), .val .null, .val (.int pos)] [] := own_entry m [(.ref x), (.ref ka), (.ref sx), .null, (.int pos)] 5 (by simp [Value.category]) rfl
  rw [ef]
  refine g_aloadN W0 dP4_0 (pc' := 1) rfl rfl rfl ?_
  refine g_initO W0 dP4_1 (pc' := 4) rfl (hw _ (List.mem_of_getElem? (i := 72) rfl)) (hw _ (List.mem_of_getElem? (i := 29) rfl)) (hw _ (List.mem_of_getElem? (i := 30) rfl)) rfl (by decide) (w := 0) (Nat.le_refl _) (by decide) ?_
  intro T485 W486
  refine g_aloadN W486 dP4_4 (pc' := 5) rfl rfl rfl ?_
  refine g_aloadN W486 dP4_5 (pc' := 6) rfl rfl rfl ?_
  obtain ⟨v488, F487⟩ := fld_laid E U.known (hw _ (List.mem_of_getElem? (i := 67) rfl)) (Or.inr (hw _ (List.mem_of_getElem? (i := 74) rfl)))
  refine g_putF W486 dP4_6 (pc' := 9) rfl (hw _ (List.mem_of_getElem? (i := 73) rfl)) F487 E (Or.inr ⟨(hw _ (List.mem_of_getElem? (i := 74) rfl)), rfl, rfl⟩) (hw _ (List.mem_of_getElem? (i := 67) rfl)) (ty := .object "com/example/tabent/tabent/query/Token$Kind") (by decide) rfl rfl (by simp) (Or.inl (by simp)) ?_
  intro T489 h490 w491 W492
  have E493 := E.wr w491
  have U494 := U.wr w491
  have O495 := own_ext_wr O w491 zx
  have K496 := (Keep.refl h0 [x]).wr w491 (Or.inl (by simp))
  have F497 := F487.same w491
  have S498 := S.wrE w491 E (by decide) (hw _ (List.mem_of_getElem? (i := 67) rfl))
  refine g_aloadN W492 dP4_9 (pc' := 10) rfl rfl rfl ?_
  refine g_aloadN W492 dP4_10 (pc' := 11) rfl rfl rfl ?_
  obtain ⟨v500, F499⟩ := fld_laid E493 U494.known (hw _ (List.mem_of_getElem? (i := 67) rfl)) (Or.inr (hw _ (List.mem_of_getElem? (i := 76) rfl)))
  refine g_putF W492 dP4_11 (pc' := 14) rfl (hw _ (List.mem_of_getElem? (i := 75) rfl)) F499 E493 (Or.inr ⟨(hw _ (List.mem_of_getElem? (i := 76) rfl)), rfl, rfl⟩) (hw _ (List.mem_of_getElem? (i := 67) rfl)) (ty := .object "java/lang/String") (by decide) rfl rfl (by simp) (Or.inl (by simp)) ?_
  intro T501 h502 w503 W504
  have E505 := E493.wr w503
  have U506 := U494.wr w503
  have O507 := own_ext_wr O495 w503 zx
  have K508 := K496.wr w503 (Or.inl (by simp))
  have F509 := F497.other w503 (Or.inr n_kind_text)
  have S510 := S498.wrE w503 E493 (by decide) (hw _ (List.mem_of_getElem? (i := 67) rfl))
  refine g_aloadN W504 dP4_14 (pc' := 15) rfl rfl rfl ?_
  refine g_aloadN W504 dP4_15 (pc' := 16) rfl rfl rfl ?_
  refine g_getS W504 dP4_16 (pc' := 19) rfl (hw _ (List.mem_of_getElem? (i := 77) rfl)) (SK0.ext O507) ?_
  intro T512 W511
  by_cases hk : ka = k0
  · skip
    refine g_acN W511 dP4_19 (pc' := 22) rfl rfl (by simp [XT.acmp, hk]) rfl ?_
    refine g_aloadN W511 dP4_22 (pc' := 23) rfl rfl rfl ?_
    refine g_static W511 dP4_23 (pc' := 26) rfl (hw _ (List.mem_of_getElem? (i := 78) rfl)) (hw _ (List.mem_of_getElem? (i := 79) rfl)) (hw _ (List.mem_of_getElem? (i := 68) rfl)) (hw _ (List.mem_of_getElem? (i := 80) rfl)) (by decide) (con_auc l Z a0 hw hEL sx cs zc SC hzc fm hfm SF1 h502 O507 SA SH SL S510 hl) pd__Ljava_lang_String__Ljava_lang_String_ (argsL := [(.ref sx)]) (st := [(.ref x)]) rfl rfl rfl rfl (by decide) (w := 1) (Nat.le_of_eq rfl) (by decide) (by decide) (by decide) (by simp) (fun q hq => nomatch hq) ?_
    intro v513 T514 h515 S518 q516 W519
    have W517 := W519.sf (SF' := [x]) (fun _ hx => List.mem_append_right _ hx)
    obtain ⟨kw520, rfl, X521, S522⟩ := q516
    have E523 := E505.ext X521
    have U524 := U506.ext X521
    have O525 := own_ext_tr O507 X521
    have K526 := K508.ext X521
    have F527 := F509.ext X521
    refine g_goto W517 dP4_26 (pc' := 30) (by decide) (by decide) ?_
    obtain ⟨v529, F528⟩ := fld_laid E523 U524.known (hw _ (List.mem_of_getElem? (i := 67) rfl)) (Or.inr (hw _ (List.mem_of_getElem? (i := 114) rfl)))
    refine g_putF W517 dP4_30 (pc' := 33) rfl (hw _ (List.mem_of_getElem? (i := 113) rfl)) F528 E523 (Or.inr ⟨(hw _ (List.mem_of_getElem? (i := 114) rfl)), rfl, rfl⟩) (hw _ (List.mem_of_getElem? (i := 67) rfl)) (ty := .object "java/lang/String") (by decide) rfl rfl (by simp) (Or.inl (by simp)) ?_
    intro T530 h531 w532 W533
    have E534 := E523.wr w532
    have U535 := U524.wr w532
    have O536 := own_ext_wr O525 w532 zx
    have K537 := K526.wr w532 (Or.inl (by simp))
    have F538 := F527.other w532 (Or.inr n_kind_keyword)
    have F539 := F528.same w532
    have S541 := S522.wrE w532 E523 (by decide) (hw _ (List.mem_of_getElem? (i := 67) rfl))
    refine g_aloadN W533 dP4_33 (pc' := 34) rfl rfl rfl ?_
    refine g_aloadN W533 dP4_34 (pc' := 35) rfl rfl rfl ?_
    obtain ⟨v543, F542⟩ := fld_laid E534 U535.known (hw _ (List.mem_of_getElem? (i := 67) rfl)) (Or.inr (hw _ (List.mem_of_getElem? (i := 116) rfl)))
    refine g_putF W533 dP4_35 (pc' := 38) rfl (hw _ (List.mem_of_getElem? (i := 115) rfl)) F542 E534 (Or.inr ⟨(hw _ (List.mem_of_getElem? (i := 116) rfl)), rfl, rfl⟩) (hw _ (List.mem_of_getElem? (i := 67) rfl)) (ty := .object "java/lang/Object") (by decide) rfl rfl (by simp) (Or.inl (by simp)) ?_
    intro T544 h545 w546 W547
    have E548 := E534.wr w546
    have U549 := U535.wr w546
    have O550 := own_ext_wr O536 w546 zx
    have K551 := K537.wr w546 (Or.inl (by simp))
    have F552 := F538.other w546 (Or.inr n_kind_value)
    have F553 := F539.other w546 (Or.inr n_keyword_value)
    have S555 := S541.wrE w546 E534 (by decide) (hw _ (List.mem_of_getElem? (i := 67) rfl))
    refine g_aloadN W547 dP4_38 (pc' := 39) rfl rfl rfl ?_
    refine g_iload W547 dP4_39 (pc' := 41) rfl rfl ?_
    obtain ⟨v557, F556⟩ := fld_laid E548 U549.known (hw _ (List.mem_of_getElem? (i := 67) rfl)) (Or.inr (hw _ (List.mem_of_getElem? (i := 118) rfl)))
    refine g_putF W547 dP4_41 (pc' := 44) rfl (hw _ (List.mem_of_getElem? (i := 117) rfl)) F556 E548 (Or.inr ⟨(hw _ (List.mem_of_getElem? (i := 118) rfl)), rfl, rfl⟩) (hw _ (List.mem_of_getElem? (i := 67) rfl)) (ty := .int) (by decide) rfl rfl (by simp) (Or.inl (by simp)) ?_
    intro T558 h559 w560 W561
    have E562 := E548.wr w560
    have U563 := U549.wr w560
    have O564 := own_ext_wr O550 w560 zx
    have K565 := K551.wr w560 (Or.inl (by simp))
    have F566 := F552.other w560 (Or.inr n_kind_position)
    have F567 := F553.other w560 (Or.inr n_keyword_position)
    have S569 := S555.wrE w560 E548 (by decide) (hw _ (List.mem_of_getElem? (i := 67) rfl))
    exact g_return W561 dP4_44 rfl ⟨rfl, K565, E562, F566, kw520, F567, fun _ => S569⟩
  · skip
    refine g_acY W511 dP4_19 (pc' := 29) rfl rfl (by simp [XT.acmp, hk]) (by decide) (by decide) ?_
    refine g_aloadN W511 dP4_29 (pc' := 30) rfl rfl rfl ?_
    obtain ⟨v571, F570⟩ := fld_laid E505 U506.known (hw _ (List.mem_of_getElem? (i := 67) rfl)) (Or.inr (hw _ (List.mem_of_getElem? (i := 114) rfl)))
    refine g_putF W511 dP4_30 (pc' := 33) rfl (hw _ (List.mem_of_getElem? (i := 113) rfl)) F570 E505 (Or.inr ⟨(hw _ (List.mem_of_getElem? (i := 114) rfl)), rfl, rfl⟩) (hw _ (List.mem_of_getElem? (i := 67) rfl)) (ty := .object "java/lang/String") (by decide) rfl rfl (by simp) (Or.inl (by simp)) ?_
    intro T572 h573 w574 W575
    have E576 := E505.wr w574
    have U577 := U506.wr w574
    have O578 := own_ext_wr O507 w574 zx
    have K579 := K508.wr w574 (Or.inl (by simp))
    have F580 := F509.other w574 (Or.inr n_kind_keyword)
    have F581 := F570.same w574
    have S582 := S510.wrE w574 E505 (by decide) (hw _ (List.mem_of_getElem? (i := 67) rfl))
    refine g_aloadN W575 dP4_33 (pc' := 34) rfl rfl rfl ?_
    refine g_aloadN W575 dP4_34 (pc' := 35) rfl rfl rfl ?_
    obtain ⟨v584, F583⟩ := fld_laid E576 U577.known (hw _ (List.mem_of_getElem? (i := 67) rfl)) (Or.inr (hw _ (List.mem_of_getElem? (i := 116) rfl)))
    refine g_putF W575 dP4_35 (pc' := 38) rfl (hw _ (List.mem_of_getElem? (i := 115) rfl)) F583 E576 (Or.inr ⟨(hw _ (List.mem_of_getElem? (i := 116) rfl)), rfl, rfl⟩) (hw _ (List.mem_of_getElem? (i := 67) rfl)) (ty := .object "java/lang/Object") (by decide) rfl rfl (by simp) (Or.inl (by simp)) ?_
    intro T585 h586 w587 W588
    have E589 := E576.wr w587
    have U590 := U577.wr w587
    have O591 := own_ext_wr O578 w587 zx
    have K592 := K579.wr w587 (Or.inl (by simp))
    have F593 := F580.other w587 (Or.inr n_kind_value)
    have F594 := F581.other w587 (Or.inr n_keyword_value)
    have S595 := S582.wrE w587 E576 (by decide) (hw _ (List.mem_of_getElem? (i := 67) rfl))
    refine g_aloadN W588 dP4_38 (pc' := 39) rfl rfl rfl ?_
    refine g_iload W588 dP4_39 (pc' := 41) rfl rfl ?_
    obtain ⟨v597, F596⟩ := fld_laid E589 U590.known (hw _ (List.mem_of_getElem? (i := 67) rfl)) (Or.inr (hw _ (List.mem_of_getElem? (i := 118) rfl)))
    refine g_putF W588 dP4_41 (pc' := 44) rfl (hw _ (List.mem_of_getElem? (i := 117) rfl)) F596 E589 (Or.inr ⟨(hw _ (List.mem_of_getElem? (i := 118) rfl)), rfl, rfl⟩) (hw _ (List.mem_of_getElem? (i := 67) rfl)) (ty := .int) (by decide) rfl rfl (by simp) (Or.inl (by simp)) ?_
    intro T598 h599 w600 W601
    have E602 := E589.wr w600
    have U603 := U590.wr w600
    have O604 := own_ext_wr O591 w600 zx
    have K605 := K592.wr w600 (Or.inl (by simp))
    have F606 := F593.other w600 (Or.inr n_kind_position)
    have F607 := F594.other w600 (Or.inr n_keyword_position)
    have S608 := S595.wrE w600 E589 (by decide) (hw _ (List.mem_of_getElem? (i := 67) rfl))
    exact g_return W601 dP4_44 rfl ⟨rfl, K605, E602, F606, sx, F607, fun z => absurd z hk⟩
set_option maxRecDepth 65536 in
set_option maxHeartbeats 4000000 in
theorem con_tis (l : Launch) (Z : State) (a0 : Array Value) (hw : ∀ d ∈ tables_1, d.before a0 Z = true) (hEL : EW Z a0 consts_1) (x y ka k0 kw : Addr) (ks ds : List Int32) (zc : Int32) (SC : Sta Z Z.heap "java/lang/String" "COMPACT_STRINGS" "Z" (.int zc)) (hzc : ¬ zc = 0) (h0 : Heap) (O : Ext Z.heap h0) (SK0 : Sta Z Z.heap "com/example/tabent/tabent/query/Token$Kind" "WORD" "Lcom/example/tabent/tabent/query/Token$Kind;" (.ref k0)) (FK : Fld Z h0 x "com/example/tabent/tabent/query/Token" "kind" "Lcom/example/tabent/tabent/query/Token$Kind;" (.ref ka)) (FW : Fld Z h0 x "com/example/tabent/tabent/query/Token" "keyword" "Ljava/lang/String;" (.ref kw)) (hk : ka = k0 → OStr Z h0 kw ks) (lk : ks.length ≤ 3) (S : OStr Z h0 y ds) (ld : ds.length ≤ 3) :
    Ocon l Z consts_1 (⟨"com/example/tabent/tabent/query/Token", "is", "(Ljava/lang/String;)Z"⟩ : MethodName) prog_8_method_6_code 2 (some .boolean) [] ({ frames := 2, cells := 0, slots := 0, locals := 28 } : Room) #[(.ref x), (.ref y)] h0 [] [] (fun v h _ => h0 = h ∧ ((v = some (.int 1) ∧ ka = k0 ∧ ks = ds) ∨ (v = some (.int 0) ∧ ¬ (ka = k0 ∧ ks = ds)))) := by
  refine own_con (a0 := a0) hEL (plainFor_of_name pn_com_example_tabent_tabent_query_Token) ?_
  intro p e s m below meth c T hs W0
  have ef : entryFrame m #[(.ref x), (.ref y)] 2 = mkF m 0 #[.val (.ref x), .val (.ref y)] [] := own_entry m [(.ref x), (.ref y)] 2 (by simp [Value.category]) rfl
  rw [ef]
  refine g_aloadN W0 dP6_0 (pc' := 1) rfl rfl rfl ?_
  refine g_getF W0 dP6_1 (pc' := 4) rfl (hw _ (List.mem_of_getElem? (i := 73) rfl)) FK ?_
  intro T610 W609
  refine g_getS W609 dP6_4 (pc' := 7) rfl (hw _ (List.mem_of_getElem? (i := 77) rfl)) (SK0.ext O) ?_
  intro T612 W611
  by_cases he : ka = k0
  · skip
    refine g_acN W611 dP6_7 (pc' := 10) rfl rfl (by simp [XT.acmp, he]) rfl ?_
    refine g_aloadN W611 dP6_10 (pc' := 11) rfl rfl rfl ?_
    refine g_getF W611 dP6_11 (pc' := 14) rfl (hw _ (List.mem_of_getElem? (i := 113) rfl)) FW ?_
    intro T614 W613
    refine g_aloadN W613 dP6_14 (pc' := 15) rfl rfl rfl ?_
    obtain ⟨u619_E, u620_B, u621_t, u622_k, u623_c, u624_N, u625_v, u626_V, u627_C, u628_A, u629_D⟩ := id (hk he)
    obtain ⟨u630_E, u631_B, u632_t, u633_k, u634_c, u635_N, u636_v, u637_V, u638_C, u639_A, u640_D⟩ := id (S)
    refine g_virtualB W613 dP6_15 (pc' := 18) (C := "java/lang/String") rfl (hw _ (List.mem_of_getElem? (i := 124) rfl)) (hw _ (List.mem_of_getElem? (i := 125) rfl)) (hw _ (List.mem_of_getElem? (i := 127) rfl)) (hw _ (List.mem_of_getElem? (i := 127) rfl)) (hw _ (List.mem_of_getElem? (i := 126) rfl)) (by decide) u619_E (fun vm0 hZ0 => StrChars.Road.eqW (s := s.setVm vm0) (W := 0) hZ0 (fun d hd => hw d (own_weq d hd)) (hw _ (List.mem_of_getElem? (i := 18) rfl)) u619_E u626_V u627_C u628_A u629_D u620_B (by omega) u630_E u637_V u638_C u639_A u640_D u631_B (by omega) (SC.ext O) hzc (by decide) (by decide)) pd__Ljava_lang_Object__Z (argsL := [(.ref y)]) (st := []) rfl rfl rfl rfl (Nat.le_of_eq rfl) ?_
    intro v615 T616 q617 W618
    rcases q617 with ⟨rfl, e641⟩ | ⟨rfl, e641⟩
    · skip
      refine g_ifN W618 dP6_18 (pc' := 21) (feq (by decide : ¬ ((1 : Int32) = (0 : Int32)))).1 rfl ?_
      refine g_iconst W618 dP6_21 (pc' := 22) rfl (v := 1) rfl ?_
      refine g_goto W618 dP6_22 (pc' := 26) (by decide) (by decide) ?_
      exact g_iret W618 dP6_26 rfl (Or.inr (Or.inl rfl)) rfl ⟨rfl, Or.inl ⟨rfl, he, e641⟩⟩
    · skip
      refine g_ifY W618 dP6_18 (pc' := 25) (teq (by decide : (0 : Int32) = (0 : Int32))).1 (by decide) (by decide) ?_
      refine g_iconst W618 dP6_25 (pc' := 26) rfl (v := 0) rfl ?_
      exact g_iret W618 dP6_26 rfl (Or.inr (Or.inl rfl)) rfl ⟨rfl, Or.inr ⟨rfl, fun z => e641 z.2⟩⟩
  · skip
    refine g_acY W611 dP6_7 (pc' := 25) rfl rfl (by simp [XT.acmp, he]) (by decide) (by decide) ?_
    refine g_iconst W611 dP6_25 (pc' := 26) rfl (v := 0) rfl ?_
    exact g_iret W611 dP6_26 rfl (Or.inr (Or.inl rfl)) rfl ⟨rfl, Or.inr ⟨rfl, fun z => he z.1⟩⟩
theorem own_base {Z : State} {x : Addr} {n : Nat} {q : Loc} (h : n ≤ x) (hq : q ∈ [(⟨x, RoadKit.slotOf Z "com/example/tabent/tabent/query/Token" "kind" "Lcom/example/tabent/tabent/query/Token$Kind;"⟩ : Loc), (⟨x, RoadKit.slotOf Z "com/example/tabent/tabent/query/Token" "text" "Ljava/lang/String;"⟩ : Loc), (⟨x, RoadKit.slotOf Z "com/example/tabent/tabent/query/Token" "keyword" "Ljava/lang/String;"⟩ : Loc), (⟨x, RoadKit.slotOf Z "com/example/tabent/tabent/query/Token" "value" "Ljava/lang/Object;"⟩ : Loc), (⟨x, RoadKit.slotOf Z "com/example/tabent/tabent/query/Token" "position" "I"⟩ : Loc)]) : n ≤ q.base := by
  simp only [List.mem_cons, List.not_mem_nil, or_false] at hq
  rcases hq with rfl | rfl | rfl | rfl | rfl <;> exact h
set_option maxRecDepth 65536 in
set_option maxHeartbeats 4000000 in
theorem con_law (l : Launch) (Z : State) (a0 : Array Value) (hw : ∀ d ∈ tables_1, d.before a0 Z = true) (hEL : EW Z a0 consts_1) (zc : Int32) (SC : Sta Z Z.heap "java/lang/String" "COMPACT_STRINGS" "Z" (.int zc)) (hzc : ¬ zc = 0) (fm : Value) (hfm : fm.isRef = true) (SF1 : Sta Z Z.heap "jdk/internal/util/Preconditions" "SIOOBE_FORMATTER" "Ljava/util/function/BiFunction;" fm) (SA : Sta Z Z.heap "java/lang/StringUTF16" "$assertionsDisabled" "Z" (.int 1)) (SH : Sta Z Z.heap "java/lang/StringUTF16" "HI_BYTE_SHIFT" "I" (.int 0)) (SL : Sta Z Z.heap "java/lang/StringUTF16" "LO_BYTE_SHIFT" "I" (.int 8)) (k0 k1 k2 k3 k4 k5 k6 k7 k8 : Addr) (SK0 : Sta Z Z.heap "com/example/tabent/tabent/query/Token$Kind" "WORD" "Lcom/example/tabent/tabent/query/Token$Kind;" (.ref k0)) (SK1 : Sta Z Z.heap "com/example/tabent/tabent/query/Token$Kind" "STRING" "Lcom/example/tabent/tabent/query/Token$Kind;" (.ref k1)) (SK2 : Sta Z Z.heap "com/example/tabent/tabent/query/Token$Kind" "INTEGER" "Lcom/example/tabent/tabent/query/Token$Kind;" (.ref k2)) (SK3 : Sta Z Z.heap "com/example/tabent/tabent/query/Token$Kind" "LONG" "Lcom/example/tabent/tabent/query/Token$Kind;" (.ref k3)) (SK4 : Sta Z Z.heap "com/example/tabent/tabent/query/Token$Kind" "DECIMAL" "Lcom/example/tabent/tabent/query/Token$Kind;" (.ref k4)) (SK5 : Sta Z Z.heap "com/example/tabent/tabent/query/Token$Kind" "NAMED_PARAMETER" "Lcom/example/tabent/tabent/query/Token$Kind;" (.ref k5)) (SK6 : Sta Z Z.heap "com/example/tabent/tabent/query/Token$Kind" "POSITIONAL_PARAMETER" "Lcom/example/tabent/tabent/query/Token$Kind;" (.ref k6)) (SK7 : Sta Z Z.heap "com/example/tabent/tabent/query/Token$Kind" "SYMBOL" "Lcom/example/tabent/tabent/query/Token$Kind;" (.ref k7)) (SK8 : Sta Z Z.heap "com/example/tabent/tabent/query/Token$Kind" "END" "Lcom/example/tabent/tabent/query/Token$Kind;" (.ref k8)) (kindSel tt kk lens mode : Int32) (h0 : Heap) (O : Ext Z.heap h0) :
    Ocon l Z consts_1 Jvm.Pilot.@@N@@.x code maxLocals ret tables_1 room_1 #[(.int kindSel), (.int tt), (.int kk), (.int lens), (.int mode)] h0 [] [] (fun v h _ => v = some (.int 1)) := by
  refine own_con (a0 := a0) hEL (plainFor_of_name pn_com_example_tabent_tabent_query_TokenIsPinLaw) ?_
  intro p e s m below meth c T0 hs W00
  have W00 : Owk p l e room_1 s m #[(.int kindSel), (.int tt), (.int kk), (.int lens), (.int mode)] below meth c Z a0 consts_1 [] "com/example/tabent/tabent/query/TokenIsPinLaw" "law" code maxLocals ret T0 h0 [] 0 0 := W00
  show Ogo p l e room_1 s m #[(.int kindSel), (.int tt), (.int kk), (.int lens), (.int mode)] below meth c Z a0 consts_1 [] "com/example/tabent/tabent/query/TokenIsPinLaw" "law" code maxLocals ret T0 _ _
  have s326 : ∀ (T : State) (h : Heap) (sy tk ka kw : Addr) (kl t0 t1 t2 e0 e1 e2 v21 : Int32) (s5 s6 s7 s8 s9 s10 s11 s12 s13 s14 s15 s16 s17 s18 : Slot), Ext Z.heap h → (kl = 0 ∨ kl = 1 ∨ kl = 2 ∨ kl = 3) → Exa Z h tk "com/example/tabent/tabent/query/Token" → Fld Z h tk "com/example/tabent/tabent/query/Token" "kind" "Lcom/example/tabent/tabent/query/Token$Kind;" (.ref ka) → Fld Z h tk "com/example/tabent/tabent/query/Token" "keyword" "Ljava/lang/String;" (.ref kw) → (ka = k0 → OStr Z h kw ((own_mk (lens &&& 3) t0 t1 t2).map own_up)) → OStr Z h sy (own_mk kl e0 e1 e2) → ((v21 = 1 ∧ (ka = k0 ∧ own_exp (lens &&& 3) kl t0 t1 t2 e0 e1 e2)) ∨ (v21 = 0 ∧ ¬ (ka = k0 ∧ own_exp (lens &&& 3) kl t0 t1 t2 e0 e1 e2))) → Owk p l e room_1 s m #[(.int kindSel), (.int tt), (.int kk), (.int lens), (.int mode)] below meth c Z a0 consts_1 [] "com/example/tabent/tabent/query/TokenIsPinLaw" "law" code maxLocals ret T h [] 30 300 → Ogo p l e room_1 s m #[(.int kindSel), (.int tt), (.int kk), (.int lens), (.int mode)] below meth c Z a0 consts_1 [] "com/example/tabent/tabent/query/TokenIsPinLaw" "law" code maxLocals ret T (mkF m 326 #[.val (.int kindSel), .val (.int tt), .val (.int kk), .val (.int lens), .val (.int mode), s5, s6, s7, s8, s9, s10, s11, s12, s13, s14, s15, s16, s17, s18, .val (.ref sy), .val (.ref tk), .val (.int v21)] []) (fun v h _ => v = some (.int 1)) := by
    intro T h sy tk ka kw kl t0 t1 t2 e0 e1 e2 v21 s5 s6 s7 s8 s9 s10 s11 s12 s13 s14 s15 s16 s17 s18 O1 hkl E FK FW hk S hv W0
    refine g_aload W0 at_326 (pc' := 328) rfl rfl rfl ?_
    refine g_aload W0 at_328 (pc' := 330) rfl rfl rfl ?_
    refine g_virtual W0 at_330 (pc' := 333) (C := "com/example/tabent/tabent/query/Token") rfl (hw _ (List.mem_of_getElem? (i := 119) rfl)) (hw _ (List.mem_of_getElem? (i := 120) rfl)) (hw _ (List.mem_of_getElem? (i := 122) rfl)) (hw _ (List.mem_of_getElem? (i := 122) rfl)) (hw _ (List.mem_of_getElem? (i := 121) rfl)) (hw _ (List.mem_of_getElem? (i := 68) rfl)) (hw _ (List.mem_of_getElem? (i := 123) rfl)) (by decide) E (con_tis l Z a0 hw hEL tk sy ka k0 kw ((own_mk (lens &&& 3) t0 t1 t2).map own_up) (own_mk kl e0 e1 e2) zc SC hzc h O1 SK0 FK FW hk (by rw [List.length_map]; exact own_mklen _ _ _ _) S (own_mklen _ _ _ _)) pd__Ljava_lang_String__Z (argsL := [(.ref sy)]) (st := []) rfl rfl rfl rfl (by decide) (w := 0) (Nat.le_of_eq rfl) (by decide) (by decide) (by decide) (by simp) (fun q hq => nomatch hq) ?_
    intro v642 T643 h644 S647 q645 W648
    have W646 := W648.sf (SF' := []) (fun _ hx => List.mem_append_right _ hx)
    have ie := own_ex (t0 := t0) (t1 := t1) (t2 := t2) (c0 := e0) (c1 := e1) (c2 := e2) (own_and3 lens) hkl
    obtain ⟨rfl, ⟨rfl, q1, q2⟩ | ⟨rfl, q1⟩⟩ := q645
    · skip
      obtain rfl : v21 = 1 := by
        rcases hv with ⟨z, y⟩ | ⟨z, y⟩
        · exact z
        · exact absurd ⟨q1, ie.mp q2⟩ y
      refine g_iload W646 at_333 (pc' := 335) rfl rfl ?_
      refine g_icN W646 at_335 (pc' := 338) (teq (by decide : (1 : Int32) = (1 : Int32))).2 rfl ?_
      refine g_iconst W646 at_338 (pc' := 339) rfl (v := 1) rfl ?_
      refine g_goto W646 at_339 (pc' := 343) (by decide) (by decide) ?_
      exact g_iret W646 at_343 rfl (Or.inr (Or.inl rfl)) rfl rfl
    · skip
      obtain rfl : v21 = 0 := by
        rcases hv with ⟨z, y⟩ | ⟨z, y⟩
        · exact absurd ⟨y.1, ie.mpr y.2⟩ q1
        · exact z
      refine g_iload W646 at_333 (pc' := 335) rfl rfl ?_
      refine g_icN W646 at_335 (pc' := 338) (teq (by decide : (0 : Int32) = (0 : Int32))).2 rfl ?_
      refine g_iconst W646 at_338 (pc' := 339) rfl (v := 1) rfl ?_
      refine g_goto W646 at_339 (pc' := 343) (by decide) (by decide) ?_
      exact g_iret W646 at_343 rfl (Or.inr (Or.inl rfl)) rfl rfl
  have s215 : ∀ (T : State) (ka : Addr) (kl t0 t1 t2 e0 e1 e2 : Int32) (s11 s12 s13 s14 s18 : Slot), One s18 → (kl = 0 ∨ kl = 1 ∨ kl = 2 ∨ kl = 3) → own_bd t0 → own_bd t1 → own_bd t2 → own_bd e0 → own_bd e1 → own_bd e2 → Owk p l e room_1 s m #[(.int kindSel), (.int tt), (.int kk), (.int lens), (.int mode)] below meth c Z a0 consts_1 [] "com/example/tabent/tabent/query/TokenIsPinLaw" "law" code maxLocals ret T h0 [] 0 0 → Ogo p l e room_1 s m #[(.int kindSel), (.int tt), (.int kk), (.int lens), (.int mode)] below meth c Z a0 consts_1 [] "com/example/tabent/tabent/query/TokenIsPinLaw" "law" code maxLocals ret T (mkF m 215 #[.val (.int kindSel), .val (.int tt), .val (.int kk), .val (.int lens), .val (.int mode), .val (.ref ka), .val (.int (lens &&& 3)), .val (.int kl), .val (.int t0), .val (.int t1), .val (.int t2), s11, s12, s13, s14, .val (.int e0), .val (.int e1), .val (.int e2), s18, .unset, .unset, .unset] []) (fun v h _ => v = some (.int 1)) := by
    intro T ka kl t0 t1 t2 e0 e1 e2 s11 s12 s13 s14 s18 h18 hkl bt0 bt1 bt2 be0 be1 be2 W0
    refine g_iload W0 at_215 (pc' := 217) rfl rfl ?_
    refine g_iload W0 at_217 (pc' := 219) rfl rfl ?_
    refine g_iload W0 at_219 (pc' := 221) rfl rfl ?_
    refine g_iload W0 at_221 (pc' := 223) rfl rfl ?_
    refine g_static W0 at_223 (pc' := 226) rfl (hw _ (List.mem_of_getElem? (i := 14) rfl)) (hw _ (List.mem_of_getElem? (i := 15) rfl)) (hw _ (List.mem_of_getElem? (i := 2) rfl)) (hw _ (List.mem_of_getElem? (i := 16) rfl)) (by decide) (con_mke l Z a0 hw hEL (lens &&& 3) t0 t1 t2 zc SC hzc h0 O SA SH SL bt0 bt1 bt2) pd__ICCC_Ljava_lang_String_ (argsL := [(.int (lens &&& 3)), (.int t0), (.int t1), (.int t2)]) (st := []) rfl rfl rfl rfl (by decide) (w := 0) (Nat.le_of_eq rfl) (by decide) (by decide) (by decide) (by simp) (fun q hq => nomatch hq) ?_
    intro v649 T650 h651 S654 q652 W655
    have W653 := W655.sf (SF' := []) (fun _ hx => List.mem_append_right _ hx)
    obtain ⟨y1, rfl, X1, S1⟩ := q652
    have O1 := own_ext_tr O X1
    refine g_astore W653 at_226 (pc' := 228) (ls' := #[.val (.int kindSel), .val (.int tt), .val (.int kk), .val (.int lens), .val (.int mode), .val (.ref ka), .val (.int (lens &&& 3)), .val (.int kl), .val (.int t0), .val (.int t1), .val (.int t2), s11, s12, s13, s14, .val (.int e0), .val (.int e1), .val (.int e2), .val (.ref y1), .unset, .unset, .unset]) rfl rfl (XS.store1 (o := s18) rfl h18 rfl) ?_
    refine g_iload W653 at_228 (pc' := 230) rfl rfl ?_
    refine g_iload W653 at_230 (pc' := 232) rfl rfl ?_
    refine g_iload W653 at_232 (pc' := 234) rfl rfl ?_
    refine g_iload W653 at_234 (pc' := 236) rfl rfl ?_
    refine g_static W653 at_236 (pc' := 239) rfl (hw _ (List.mem_of_getElem? (i := 14) rfl)) (hw _ (List.mem_of_getElem? (i := 15) rfl)) (hw _ (List.mem_of_getElem? (i := 2) rfl)) (hw _ (List.mem_of_getElem? (i := 16) rfl)) (by decide) (con_mke l Z a0 hw hEL kl e0 e1 e2 zc SC hzc h651 O1 SA SH SL be0 be1 be2) pd__ICCC_Ljava_lang_String_ (argsL := [(.int kl), (.int e0), (.int e1), (.int e2)]) (st := []) rfl rfl rfl rfl (by decide) (w := 0) (Nat.le_of_eq rfl) (by decide) (by decide) (by decide) (by simp) (fun q hq => nomatch hq) ?_
    intro v656 T657 h658 S661 q659 W662
    have W660 := W662.sf (SF' := []) (fun _ hx => List.mem_append_right _ hx)
    obtain ⟨y2, rfl, X2, S2⟩ := q659
    have O2 := own_ext_tr O1 X2
    refine g_astore W660 at_239 (pc' := 241) rfl (ls' := #[.val (.int kindSel), .val (.int tt), .val (.int kk), .val (.int lens), .val (.int mode), .val (.ref ka), .val (.int (lens &&& 3)), .val (.int kl), .val (.int t0), .val (.int t1), .val (.int t2), s11, s12, s13, s14, .val (.int e0), .val (.int e1), .val (.int e2), .val (.ref y1), .val (.ref y2), .unset, .unset]) rfl rfl ?_
    refine g_new W660 at_241 (pc' := 244) rfl (hw _ (List.mem_of_getElem? (i := 66) rfl)) (hw _ (List.mem_of_getElem? (i := 67) rfl)) (hw _ (List.mem_of_getElem? (i := 68) rfl)) (by decide) (by decide) ?_
    intro T663 h664 E665 A666 D667 U668 W669
    obtain ⟨a670, g671⟩ : ∃ z, z = h658.size := ⟨_, rfl⟩
    rw [← g671] at A666 D667 U668 W669 ⊢
    have nx : s.heap.size ≤ a670 := by rw [g671]; exact W660.grown
    have zx : Z.heap.size ≤ a670 := by rw [g671]; exact O2.1
    have O3 := own_ext_tr O2 E665
    refine g_dup W669 at_244 (pc' := 245) rfl rfl ?_
    refine g_aload W669 at_245 (pc' := 247) rfl rfl rfl ?_
    refine g_aload W669 at_247 (pc' := 249) rfl rfl rfl ?_
    refine g_aconst_null W669 at_249 (pc' := 250) rfl ?_
    refine g_iloadN W669 at_250 (pc' := 251) rfl rfl ?_
    refine g_special W669 at_251 (pc' := 254) rfl rfl (hw _ (List.mem_of_getElem? (i := 69) rfl)) (hw _ (List.mem_of_getElem? (i := 70) rfl)) (hw _ (List.mem_of_getElem? (i := 68) rfl)) (hw _ (List.mem_of_getElem? (i := 71) rfl)) (by decide) (con_tin l Z a0 hw hEL a670 ka y1 k0 lens (own_mk (lens &&& 3) t0 t1 t2) zc SC hzc fm hfm SF1 h664 O3 SA SH SL SK0 zx A666 U668 ((S1.ext X2).ext E665) (own_mklen _ _ _ _)) pd__Lcom_example_tabent_tabent_query_Token_Kind_Ljava_lang_String_Ljava_lang_Object_I_V (argsL := [(.ref ka), (.ref y1), .null, (.int lens)]) (st := [(.ref a670)]) rfl rfl rfl rfl (by decide) (w := 1) (Nat.le_of_eq rfl) (by decide) (by decide) (by decide) (by simp) (fun q hq => Or.inr (own_base nx hq)) ?_
    intro v672 T673 h674 S677 q675 W678
    have W676 := W678.sf (SF' := [a670]) (fun _ hx => List.mem_append_right _ hx)
    obtain ⟨rfl, qK, tE, tK, kw, tW, hkw⟩ := q675
    have X4 := own_ext_keep E665 qK (by intro y hy; rw [List.mem_singleton.mp hy, g671]; exact Nat.le_refl _)
    have O4 := own_ext_tr O2 X4
    have S4 := S2.ext X4
    refine g_astore W676 at_254 (pc' := 256) rfl (ls' := #[.val (.int kindSel), .val (.int tt), .val (.int kk), .val (.int lens), .val (.int mode), .val (.ref ka), .val (.int (lens &&& 3)), .val (.int kl), .val (.int t0), .val (.int t1), .val (.int t2), s11, s12, s13, s14, .val (.int e0), .val (.int e1), .val (.int e2), .val (.ref y1), .val (.ref y2), .val (.ref a670), .unset]) rfl rfl ?_
    refine g_aload W676 at_256 (pc' := 258) rfl rfl rfl ?_
    refine g_getS W676 at_258 (pc' := 261) rfl (hw _ (List.mem_of_getElem? (i := 5) rfl)) (SK0.ext O4) ?_
    intro T680 W679
    by_cases hka : ka = k0
    · skip
      refine g_acN W679 at_261 (pc' := 264) rfl rfl (by simp [XT.acmp, hka]) rfl ?_
      refine g_iload W679 at_264 (pc' := 266) rfl rfl ?_
      refine g_iload W679 at_266 (pc' := 268) rfl rfl ?_
      by_cases c681 : kl = (lens &&& 3)
      · skip
        refine g_icN W679 at_268 (pc' := 271) (teq c681).2 rfl ?_
        refine g_iload W679 at_271 (pc' := 273) rfl rfl ?_
        refine g_iconst W679 at_273 (pc' := 274) rfl (v := 1) rfl ?_
        by_cases c682 : (lens &&& 3) < (1 : Int32)
        · skip
          refine g_icY W679 at_274 (pc' := 287) (tlt c682).1 (by decide) (by decide) ?_
          refine g_iload W679 at_287 (pc' := 289) rfl rfl ?_
          refine g_iconst W679 at_289 (pc' := 290) rfl (v := 2) rfl ?_
          by_cases c683 : (lens &&& 3) < (2 : Int32)
          · skip
            refine g_icY W679 at_290 (pc' := 303) (tlt c683).1 (by decide) (by decide) ?_
            refine g_iload W679 at_303 (pc' := 305) rfl rfl ?_
            refine g_iconst W679 at_305 (pc' := 306) rfl (v := 3) rfl ?_
            by_cases c684 : (lens &&& 3) < (3 : Int32)
            · skip
              refine g_icY W679 at_306 (pc' := 319) (tlt c684).1 (by decide) (by decide) ?_
              refine g_iconst W679 at_319 (pc' := 320) rfl (v := 1) rfl ?_
              refine g_goto W679 at_320 (pc' := 324) (by decide) (by decide) ?_
              refine g_istore W679 at_324 (pc' := 326) rfl (ls' := #[.val (.int kindSel), .val (.int tt), .val (.int kk), .val (.int lens), .val (.int mode), .val (.ref ka), .val (.int (lens &&& 3)), .val (.int kl), .val (.int t0), .val (.int t1), .val (.int t2), s11, s12, s13, s14, .val (.int e0), .val (.int e1), .val (.int e2), .val (.ref y1), .val (.ref y2), .val (.ref a670), .val (.int (1 : Int32))]) rfl ?_
              exact s326 T680 h674 y2 a670 ka kw kl t0 t1 t2 e0 e1 e2 1 _ _ _ _ _ _ _ _ _ _ _ _ _ _ O4 hkl tE tK tW hkw S4 (Or.inl ⟨rfl, hka, c681, Or.inl c682, Or.inl c683, Or.inl c684⟩) ((W679.up (k' := 30) (j' := 300) (by decide) (by decide) (by decide) (by decide)).sf (SF' := []) (fun q hq => nomatch hq))
            · skip
              refine g_icN W679 at_306 (pc' := 309) (flt c684).1 rfl ?_
              refine g_iload W679 at_309 (pc' := 311) rfl rfl ?_
              refine g_static W679 at_311 (pc' := 314) rfl (hw _ (List.mem_of_getElem? (i := 11) rfl)) (hw _ (List.mem_of_getElem? (i := 12) rfl)) (hw _ (List.mem_of_getElem? (i := 2) rfl)) (hw _ (List.mem_of_getElem? (i := 13) rfl)) (by decide) (con_upc l Z a0 hw hEL t2 h674 bt2) pd__C_C (argsL := [(.int t2)]) (st := []) rfl rfl rfl rfl (by decide) (w := 0) (Nat.le_of_eq rfl) (by decide) (by decide) (by decide) (by simp) (fun q hq => nomatch hq) ?_
              intro v685 T686 h687 S690 q688 W691
              have W689 := W691.sf (SF' := [a670]) (fun _ hx => List.mem_append_right _ hx)
              obtain ⟨rfl, rfl⟩ := q688
              refine g_iload W689 at_314 (pc' := 316) rfl rfl ?_
              by_cases c692 : (own_up t2) = e2
              · skip
                refine g_icN W689 at_316 (pc' := 319) (teq c692).2 rfl ?_
                refine g_iconst W689 at_319 (pc' := 320) rfl (v := 1) rfl ?_
                refine g_goto W689 at_320 (pc' := 324) (by decide) (by decide) ?_
                refine g_istore W689 at_324 (pc' := 326) rfl (ls' := #[.val (.int kindSel), .val (.int tt), .val (.int kk), .val (.int lens), .val (.int mode), .val (.ref ka), .val (.int (lens &&& 3)), .val (.int kl), .val (.int t0), .val (.int t1), .val (.int t2), s11, s12, s13, s14, .val (.int e0), .val (.int e1), .val (.int e2), .val (.ref y1), .val (.ref y2), .val (.ref a670), .val (.int (1 : Int32))]) rfl ?_
                exact s326 T686 h674 y2 a670 ka kw kl t0 t1 t2 e0 e1 e2 1 _ _ _ _ _ _ _ _ _ _ _ _ _ _ O4 hkl tE tK tW hkw S4 (Or.inl ⟨rfl, hka, c681, Or.inl c682, Or.inl c683, Or.inr c692⟩) ((W689.up (k' := 30) (j' := 300) (by decide) (by decide) (by decide) (by decide)).sf (SF' := []) (fun q hq => nomatch hq))
              · skip
                refine g_icY W689 at_316 (pc' := 323) (feq c692).2 (by decide) (by decide) ?_
                refine g_iconst W689 at_323 (pc' := 324) rfl (v := 0) rfl ?_
                refine g_istore W689 at_324 (pc' := 326) rfl (ls' := #[.val (.int kindSel), .val (.int tt), .val (.int kk), .val (.int lens), .val (.int mode), .val (.ref ka), .val (.int (lens &&& 3)), .val (.int kl), .val (.int t0), .val (.int t1), .val (.int t2), s11, s12, s13, s14, .val (.int e0), .val (.int e1), .val (.int e2), .val (.ref y1), .val (.ref y2), .val (.ref a670), .val (.int (0 : Int32))]) rfl ?_
                exact s326 T686 h674 y2 a670 ka kw kl t0 t1 t2 e0 e1 e2 0 _ _ _ _ _ _ _ _ _ _ _ _ _ _ O4 hkl tE tK tW hkw S4 (Or.inr ⟨rfl, fun z => (z.2.2.2.2).elim c684 c692⟩) ((W689.up (k' := 30) (j' := 300) (by decide) (by decide) (by decide) (by decide)).sf (SF' := []) (fun q hq => nomatch hq))
          · skip
            refine g_icN W679 at_290 (pc' := 293) (flt c683).1 rfl ?_
            refine g_iload W679 at_293 (pc' := 295) rfl rfl ?_
            refine g_static W679 at_295 (pc' := 298) rfl (hw _ (List.mem_of_getElem? (i := 11) rfl)) (hw _ (List.mem_of_getElem? (i := 12) rfl)) (hw _ (List.mem_of_getElem? (i := 2) rfl)) (hw _ (List.mem_of_getElem? (i := 13) rfl)) (by decide) (con_upc l Z a0 hw hEL t1 h674 bt1) pd__C_C (argsL := [(.int t1)]) (st := []) rfl rfl rfl rfl (by decide) (w := 0) (Nat.le_of_eq rfl) (by decide) (by decide) (by decide) (by simp) (fun q hq => nomatch hq) ?_
            intro v693 T694 h695 S698 q696 W699
            have W697 := W699.sf (SF' := [a670]) (fun _ hx => List.mem_append_right _ hx)
            obtain ⟨rfl, rfl⟩ := q696
            refine g_iload W697 at_298 (pc' := 300) rfl rfl ?_
            by_cases c700 : (own_up t1) = e1
            · skip
              refine g_icN W697 at_300 (pc' := 303) (teq c700).2 rfl ?_
              refine g_iload W697 at_303 (pc' := 305) rfl rfl ?_
              refine g_iconst W697 at_305 (pc' := 306) rfl (v := 3) rfl ?_
              by_cases c701 : (lens &&& 3) < (3 : Int32)
              · skip
                refine g_icY W697 at_306 (pc' := 319) (tlt c701).1 (by decide) (by decide) ?_
                refine g_iconst W697 at_319 (pc' := 320) rfl (v := 1) rfl ?_
                refine g_goto W697 at_320 (pc' := 324) (by decide) (by decide) ?_
                refine g_istore W697 at_324 (pc' := 326) rfl (ls' := #[.val (.int kindSel), .val (.int tt), .val (.int kk), .val (.int lens), .val (.int mode), .val (.ref ka), .val (.int (lens &&& 3)), .val (.int kl), .val (.int t0), .val (.int t1), .val (.int t2), s11, s12, s13, s14, .val (.int e0), .val (.int e1), .val (.int e2), .val (.ref y1), .val (.ref y2), .val (.ref a670), .val (.int (1 : Int32))]) rfl ?_
                exact s326 T694 h674 y2 a670 ka kw kl t0 t1 t2 e0 e1 e2 1 _ _ _ _ _ _ _ _ _ _ _ _ _ _ O4 hkl tE tK tW hkw S4 (Or.inl ⟨rfl, hka, c681, Or.inl c682, Or.inr c700, Or.inl c701⟩) ((W697.up (k' := 30) (j' := 300) (by decide) (by decide) (by decide) (by decide)).sf (SF' := []) (fun q hq => nomatch hq))
              · skip
                refine g_icN W697 at_306 (pc' := 309) (flt c701).1 rfl ?_
                refine g_iload W697 at_309 (pc' := 311) rfl rfl ?_
                refine g_static W697 at_311 (pc' := 314) rfl (hw _ (List.mem_of_getElem? (i := 11) rfl)) (hw _ (List.mem_of_getElem? (i := 12) rfl)) (hw _ (List.mem_of_getElem? (i := 2) rfl)) (hw _ (List.mem_of_getElem? (i := 13) rfl)) (by decide) (con_upc l Z a0 hw hEL t2 h674 bt2) pd__C_C (argsL := [(.int t2)]) (st := []) rfl rfl rfl rfl (by decide) (w := 0) (Nat.le_of_eq rfl) (by decide) (by decide) (by decide) (by simp) (fun q hq => nomatch hq) ?_
                intro v702 T703 h704 S707 q705 W708
                have W706 := W708.sf (SF' := [a670]) (fun _ hx => List.mem_append_right _ hx)
                obtain ⟨rfl, rfl⟩ := q705
                refine g_iload W706 at_314 (pc' := 316) rfl rfl ?_
                by_cases c709 : (own_up t2) = e2
                · skip
                  refine g_icN W706 at_316 (pc' := 319) (teq c709).2 rfl ?_
                  refine g_iconst W706 at_319 (pc' := 320) rfl (v := 1) rfl ?_
                  refine g_goto W706 at_320 (pc' := 324) (by decide) (by decide) ?_
                  refine g_istore W706 at_324 (pc' := 326) rfl (ls' := #[.val (.int kindSel), .val (.int tt), .val (.int kk), .val (.int lens), .val (.int mode), .val (.ref ka), .val (.int (lens &&& 3)), .val (.int kl), .val (.int t0), .val (.int t1), .val (.int t2), s11, s12, s13, s14, .val (.int e0), .val (.int e1), .val (.int e2), .val (.ref y1), .val (.ref y2), .val (.ref a670), .val (.int (1 : Int32))]) rfl ?_
                  exact s326 T703 h674 y2 a670 ka kw kl t0 t1 t2 e0 e1 e2 1 _ _ _ _ _ _ _ _ _ _ _ _ _ _ O4 hkl tE tK tW hkw S4 (Or.inl ⟨rfl, hka, c681, Or.inl c682, Or.inr c700, Or.inr c709⟩) ((W706.up (k' := 30) (j' := 300) (by decide) (by decide) (by decide) (by decide)).sf (SF' := []) (fun q hq => nomatch hq))
                · skip
                  refine g_icY W706 at_316 (pc' := 323) (feq c709).2 (by decide) (by decide) ?_
                  refine g_iconst W706 at_323 (pc' := 324) rfl (v := 0) rfl ?_
                  refine g_istore W706 at_324 (pc' := 326) rfl (ls' := #[.val (.int kindSel), .val (.int tt), .val (.int kk), .val (.int lens), .val (.int mode), .val (.ref ka), .val (.int (lens &&& 3)), .val (.int kl), .val (.int t0), .val (.int t1), .val (.int t2), s11, s12, s13, s14, .val (.int e0), .val (.int e1), .val (.int e2), .val (.ref y1), .val (.ref y2), .val (.ref a670), .val (.int (0 : Int32))]) rfl ?_
                  exact s326 T703 h674 y2 a670 ka kw kl t0 t1 t2 e0 e1 e2 0 _ _ _ _ _ _ _ _ _ _ _ _ _ _ O4 hkl tE tK tW hkw S4 (Or.inr ⟨rfl, fun z => (z.2.2.2.2).elim c701 c709⟩) ((W706.up (k' := 30) (j' := 300) (by decide) (by decide) (by decide) (by decide)).sf (SF' := []) (fun q hq => nomatch hq))
            · skip
              refine g_icY W697 at_300 (pc' := 323) (feq c700).2 (by decide) (by decide) ?_
              refine g_iconst W697 at_323 (pc' := 324) rfl (v := 0) rfl ?_
              refine g_istore W697 at_324 (pc' := 326) rfl (ls' := #[.val (.int kindSel), .val (.int tt), .val (.int kk), .val (.int lens), .val (.int mode), .val (.ref ka), .val (.int (lens &&& 3)), .val (.int kl), .val (.int t0), .val (.int t1), .val (.int t2), s11, s12, s13, s14, .val (.int e0), .val (.int e1), .val (.int e2), .val (.ref y1), .val (.ref y2), .val (.ref a670), .val (.int (0 : Int32))]) rfl ?_
              exact s326 T694 h674 y2 a670 ka kw kl t0 t1 t2 e0 e1 e2 0 _ _ _ _ _ _ _ _ _ _ _ _ _ _ O4 hkl tE tK tW hkw S4 (Or.inr ⟨rfl, fun z => (z.2.2.2.1).elim c683 c700⟩) ((W697.up (k' := 30) (j' := 300) (by decide) (by decide) (by decide) (by decide)).sf (SF' := []) (fun q hq => nomatch hq))
        · skip
          refine g_icN W679 at_274 (pc' := 277) (flt c682).1 rfl ?_
          refine g_iload W679 at_277 (pc' := 279) rfl rfl ?_
          refine g_static W679 at_279 (pc' := 282) rfl (hw _ (List.mem_of_getElem? (i := 11) rfl)) (hw _ (List.mem_of_getElem? (i := 12) rfl)) (hw _ (List.mem_of_getElem? (i := 2) rfl)) (hw _ (List.mem_of_getElem? (i := 13) rfl)) (by decide) (con_upc l Z a0 hw hEL t0 h674 bt0) pd__C_C (argsL := [(.int t0)]) (st := []) rfl rfl rfl rfl (by decide) (w := 0) (Nat.le_of_eq rfl) (by decide) (by decide) (by decide) (by simp) (fun q hq => nomatch hq) ?_
          intro v710 T711 h712 S715 q713 W716
          have W714 := W716.sf (SF' := [a670]) (fun _ hx => List.mem_append_right _ hx)
          obtain ⟨rfl, rfl⟩ := q713
          refine g_iload W714 at_282 (pc' := 284) rfl rfl ?_
          by_cases c717 : (own_up t0) = e0
          · skip
            refine g_icN W714 at_284 (pc' := 287) (teq c717).2 rfl ?_
            refine g_iload W714 at_287 (pc' := 289) rfl rfl ?_
            refine g_iconst W714 at_289 (pc' := 290) rfl (v := 2) rfl ?_
            by_cases c718 : (lens &&& 3) < (2 : Int32)
            · skip
              refine g_icY W714 at_290 (pc' := 303) (tlt c718).1 (by decide) (by decide) ?_
              refine g_iload W714 at_303 (pc' := 305) rfl rfl ?_
              refine g_iconst W714 at_305 (pc' := 306) rfl (v := 3) rfl ?_
              by_cases c719 : (lens &&& 3) < (3 : Int32)
              · skip
                refine g_icY W714 at_306 (pc' := 319) (tlt c719).1 (by decide) (by decide) ?_
                refine g_iconst W714 at_319 (pc' := 320) rfl (v := 1) rfl ?_
                refine g_goto W714 at_320 (pc' := 324) (by decide) (by decide) ?_
                refine g_istore W714 at_324 (pc' := 326) rfl (ls' := #[.val (.int kindSel), .val (.int tt), .val (.int kk), .val (.int lens), .val (.int mode), .val (.ref ka), .val (.int (lens &&& 3)), .val (.int kl), .val (.int t0), .val (.int t1), .val (.int t2), s11, s12, s13, s14, .val (.int e0), .val (.int e1), .val (.int e2), .val (.ref y1), .val (.ref y2), .val (.ref a670), .val (.int (1 : Int32))]) rfl ?_
                exact s326 T711 h674 y2 a670 ka kw kl t0 t1 t2 e0 e1 e2 1 _ _ _ _ _ _ _ _ _ _ _ _ _ _ O4 hkl tE tK tW hkw S4 (Or.inl ⟨rfl, hka, c681, Or.inr c717, Or.inl c718, Or.inl c719⟩) ((W714.up (k' := 30) (j' := 300) (by decide) (by decide) (by decide) (by decide)).sf (SF' := []) (fun q hq => nomatch hq))
              · skip
                refine g_icN W714 at_306 (pc' := 309) (flt c719).1 rfl ?_
                refine g_iload W714 at_309 (pc' := 311) rfl rfl ?_
                refine g_static W714 at_311 (pc' := 314) rfl (hw _ (List.mem_of_getElem? (i := 11) rfl)) (hw _ (List.mem_of_getElem? (i := 12) rfl)) (hw _ (List.mem_of_getElem? (i := 2) rfl)) (hw _ (List.mem_of_getElem? (i := 13) rfl)) (by decide) (con_upc l Z a0 hw hEL t2 h674 bt2) pd__C_C (argsL := [(.int t2)]) (st := []) rfl rfl rfl rfl (by decide) (w := 0) (Nat.le_of_eq rfl) (by decide) (by decide) (by decide) (by simp) (fun q hq => nomatch hq) ?_
                intro v720 T721 h722 S725 q723 W726
                have W724 := W726.sf (SF' := [a670]) (fun _ hx => List.mem_append_right _ hx)
                obtain ⟨rfl, rfl⟩ := q723
                refine g_iload W724 at_314 (pc' := 316) rfl rfl ?_
                by_cases c727 : (own_up t2) = e2
                · skip
                  refine g_icN W724 at_316 (pc' := 319) (teq c727).2 rfl ?_
                  refine g_iconst W724 at_319 (pc' := 320) rfl (v := 1) rfl ?_
                  refine g_goto W724 at_320 (pc' := 324) (by decide) (by decide) ?_
                  refine g_istore W724 at_324 (pc' := 326) rfl (ls' := #[.val (.int kindSel), .val (.int tt), .val (.int kk), .val (.int lens), .val (.int mode), .val (.ref ka), .val (.int (lens &&& 3)), .val (.int kl), .val (.int t0), .val (.int t1), .val (.int t2), s11, s12, s13, s14, .val (.int e0), .val (.int e1), .val (.int e2), .val (.ref y1), .val (.ref y2), .val (.ref a670), .val (.int (1 : Int32))]) rfl ?_
                  exact s326 T721 h674 y2 a670 ka kw kl t0 t1 t2 e0 e1 e2 1 _ _ _ _ _ _ _ _ _ _ _ _ _ _ O4 hkl tE tK tW hkw S4 (Or.inl ⟨rfl, hka, c681, Or.inr c717, Or.inl c718, Or.inr c727⟩) ((W724.up (k' := 30) (j' := 300) (by decide) (by decide) (by decide) (by decide)).sf (SF' := []) (fun q hq => nomatch hq))
                · skip
                  refine g_icY W724 at_316 (pc' := 323) (feq c727).2 (by decide) (by decide) ?_
                  refine g_iconst W724 at_323 (pc' := 324) rfl (v := 0) rfl ?_
                  refine g_istore W724 at_324 (pc' := 326) rfl (ls' := #[.val (.int kindSel), .val (.int tt), .val (.int kk), .val (.int lens), .val (.int mode), .val (.ref ka), .val (.int (lens &&& 3)), .val (.int kl), .val (.int t0), .val (.int t1), .val (.int t2), s11, s12, s13, s14, .val (.int e0), .val (.int e1), .val (.int e2), .val (.ref y1), .val (.ref y2), .val (.ref a670), .val (.int (0 : Int32))]) rfl ?_
                  exact s326 T721 h674 y2 a670 ka kw kl t0 t1 t2 e0 e1 e2 0 _ _ _ _ _ _ _ _ _ _ _ _ _ _ O4 hkl tE tK tW hkw S4 (Or.inr ⟨rfl, fun z => (z.2.2.2.2).elim c719 c727⟩) ((W724.up (k' := 30) (j' := 300) (by decide) (by decide) (by decide) (by decide)).sf (SF' := []) (fun q hq => nomatch hq))
            · skip
              refine g_icN W714 at_290 (pc' := 293) (flt c718).1 rfl ?_
              refine g_iload W714 at_293 (pc' := 295) rfl rfl ?_
              refine g_static W714 at_295 (pc' := 298) rfl (hw _ (List.mem_of_getElem? (i := 11) rfl)) (hw _ (List.mem_of_getElem? (i := 12) rfl)) (hw _ (List.mem_of_getElem? (i := 2) rfl)) (hw _ (List.mem_of_getElem? (i := 13) rfl)) (by decide) (con_upc l Z a0 hw hEL t1 h674 bt1) pd__C_C (argsL := [(.int t1)]) (st := []) rfl rfl rfl rfl (by decide) (w := 0) (Nat.le_of_eq rfl) (by decide) (by decide) (by decide) (by simp) (fun q hq => nomatch hq) ?_
              intro v728 T729 h730 S733 q731 W734
              have W732 := W734.sf (SF' := [a670]) (fun _ hx => List.mem_append_right _ hx)
              obtain ⟨rfl, rfl⟩ := q731
              refine g_iload W732 at_298 (pc' := 300) rfl rfl ?_
              by_cases c735 : (own_up t1) = e1
              · skip
                refine g_icN W732 at_300 (pc' := 303) (teq c735).2 rfl ?_
                refine g_iload W732 at_303 (pc' := 305) rfl rfl ?_
                refine g_iconst W732 at_305 (pc' := 306) rfl (v := 3) rfl ?_
                by_cases c736 : (lens &&& 3) < (3 : Int32)
                · skip
                  refine g_icY W732 at_306 (pc' := 319) (tlt c736).1 (by decide) (by decide) ?_
                  refine g_iconst W732 at_319 (pc' := 320) rfl (v := 1) rfl ?_
                  refine g_goto W732 at_320 (pc' := 324) (by decide) (by decide) ?_
                  refine g_istore W732 at_324 (pc' := 326) rfl (ls' := #[.val (.int kindSel), .val (.int tt), .val (.int kk), .val (.int lens), .val (.int mode), .val (.ref ka), .val (.int (lens &&& 3)), .val (.int kl), .val (.int t0), .val (.int t1), .val (.int t2), s11, s12, s13, s14, .val (.int e0), .val (.int e1), .val (.int e2), .val (.ref y1), .val (.ref y2), .val (.ref a670), .val (.int (1 : Int32))]) rfl ?_
                  exact s326 T729 h674 y2 a670 ka kw kl t0 t1 t2 e0 e1 e2 1 _ _ _ _ _ _ _ _ _ _ _ _ _ _ O4 hkl tE tK tW hkw S4 (Or.inl ⟨rfl, hka, c681, Or.inr c717, Or.inr c735, Or.inl c736⟩) ((W732.up (k' := 30) (j' := 300) (by decide) (by decide) (by decide) (by decide)).sf (SF' := []) (fun q hq => nomatch hq))
                · skip
                  refine g_icN W732 at_306 (pc' := 309) (flt c736).1 rfl ?_
                  refine g_iload W732 at_309 (pc' := 311) rfl rfl ?_
                  refine g_static W732 at_311 (pc' := 314) rfl (hw _ (List.mem_of_getElem? (i := 11) rfl)) (hw _ (List.mem_of_getElem? (i := 12) rfl)) (hw _ (List.mem_of_getElem? (i := 2) rfl)) (hw _ (List.mem_of_getElem? (i := 13) rfl)) (by decide) (con_upc l Z a0 hw hEL t2 h674 bt2) pd__C_C (argsL := [(.int t2)]) (st := []) rfl rfl rfl rfl (by decide) (w := 0) (Nat.le_of_eq rfl) (by decide) (by decide) (by decide) (by simp) (fun q hq => nomatch hq) ?_
                  intro v737 T738 h739 S742 q740 W743
                  have W741 := W743.sf (SF' := [a670]) (fun _ hx => List.mem_append_right _ hx)
                  obtain ⟨rfl, rfl⟩ := q740
                  refine g_iload W741 at_314 (pc' := 316) rfl rfl ?_
                  by_cases c744 : (own_up t2) = e2
                  · skip
                    refine g_icN W741 at_316 (pc' := 319) (teq c744).2 rfl ?_
                    refine g_iconst W741 at_319 (pc' := 320) rfl (v := 1) rfl ?_
                    refine g_goto W741 at_320 (pc' := 324) (by decide) (by decide) ?_
                    refine g_istore W741 at_324 (pc' := 326) rfl (ls' := #[.val (.int kindSel), .val (.int tt), .val (.int kk), .val (.int lens), .val (.int mode), .val (.ref ka), .val (.int (lens &&& 3)), .val (.int kl), .val (.int t0), .val (.int t1), .val (.int t2), s11, s12, s13, s14, .val (.int e0), .val (.int e1), .val (.int e2), .val (.ref y1), .val (.ref y2), .val (.ref a670), .val (.int (1 : Int32))]) rfl ?_
                    exact s326 T738 h674 y2 a670 ka kw kl t0 t1 t2 e0 e1 e2 1 _ _ _ _ _ _ _ _ _ _ _ _ _ _ O4 hkl tE tK tW hkw S4 (Or.inl ⟨rfl, hka, c681, Or.inr c717, Or.inr c735, Or.inr c744⟩) ((W741.up (k' := 30) (j' := 300) (by decide) (by decide) (by decide) (by decide)).sf (SF' := []) (fun q hq => nomatch hq))
                  · skip
                    refine g_icY W741 at_316 (pc' := 323) (feq c744).2 (by decide) (by decide) ?_
                    refine g_iconst W741 at_323 (pc' := 324) rfl (v := 0) rfl ?_
                    refine g_istore W741 at_324 (pc' := 326) rfl (ls' := #[.val (.int kindSel), .val (.int tt), .val (.int kk), .val (.int lens), .val (.int mode), .val (.ref ka), .val (.int (lens &&& 3)), .val (.int kl), .val (.int t0), .val (.int t1), .val (.int t2), s11, s12, s13, s14, .val (.int e0), .val (.int e1), .val (.int e2), .val (.ref y1), .val (.ref y2), .val (.ref a670), .val (.int (0 : Int32))]) rfl ?_
                    exact s326 T738 h674 y2 a670 ka kw kl t0 t1 t2 e0 e1 e2 0 _ _ _ _ _ _ _ _ _ _ _ _ _ _ O4 hkl tE tK tW hkw S4 (Or.inr ⟨rfl, fun z => (z.2.2.2.2).elim c736 c744⟩) ((W741.up (k' := 30) (j' := 300) (by decide) (by decide) (by decide) (by decide)).sf (SF' := []) (fun q hq => nomatch hq))
              · skip
                refine g_icY W732 at_300 (pc' := 323) (feq c735).2 (by decide) (by decide) ?_
                refine g_iconst W732 at_323 (pc' := 324) rfl (v := 0) rfl ?_
                refine g_istore W732 at_324 (pc' := 326) rfl (ls' := #[.val (.int kindSel), .val (.int tt), .val (.int kk), .val (.int lens), .val (.int mode), .val (.ref ka), .val (.int (lens &&& 3)), .val (.int kl), .val (.int t0), .val (.int t1), .val (.int t2), s11, s12, s13, s14, .val (.int e0), .val (.int e1), .val (.int e2), .val (.ref y1), .val (.ref y2), .val (.ref a670), .val (.int (0 : Int32))]) rfl ?_
                exact s326 T729 h674 y2 a670 ka kw kl t0 t1 t2 e0 e1 e2 0 _ _ _ _ _ _ _ _ _ _ _ _ _ _ O4 hkl tE tK tW hkw S4 (Or.inr ⟨rfl, fun z => (z.2.2.2.1).elim c718 c735⟩) ((W732.up (k' := 30) (j' := 300) (by decide) (by decide) (by decide) (by decide)).sf (SF' := []) (fun q hq => nomatch hq))
          · skip
            refine g_icY W714 at_284 (pc' := 323) (feq c717).2 (by decide) (by decide) ?_
            refine g_iconst W714 at_323 (pc' := 324) rfl (v := 0) rfl ?_
            refine g_istore W714 at_324 (pc' := 326) rfl (ls' := #[.val (.int kindSel), .val (.int tt), .val (.int kk), .val (.int lens), .val (.int mode), .val (.ref ka), .val (.int (lens &&& 3)), .val (.int kl), .val (.int t0), .val (.int t1), .val (.int t2), s11, s12, s13, s14, .val (.int e0), .val (.int e1), .val (.int e2), .val (.ref y1), .val (.ref y2), .val (.ref a670), .val (.int (0 : Int32))]) rfl ?_
            exact s326 T711 h674 y2 a670 ka kw kl t0 t1 t2 e0 e1 e2 0 _ _ _ _ _ _ _ _ _ _ _ _ _ _ O4 hkl tE tK tW hkw S4 (Or.inr ⟨rfl, fun z => (z.2.2.1).elim c682 c717⟩) ((W714.up (k' := 30) (j' := 300) (by decide) (by decide) (by decide) (by decide)).sf (SF' := []) (fun q hq => nomatch hq))
      · skip
        refine g_icY W679 at_268 (pc' := 323) (feq c681).2 (by decide) (by decide) ?_
        refine g_iconst W679 at_323 (pc' := 324) rfl (v := 0) rfl ?_
        refine g_istore W679 at_324 (pc' := 326) rfl (ls' := #[.val (.int kindSel), .val (.int tt), .val (.int kk), .val (.int lens), .val (.int mode), .val (.ref ka), .val (.int (lens &&& 3)), .val (.int kl), .val (.int t0), .val (.int t1), .val (.int t2), s11, s12, s13, s14, .val (.int e0), .val (.int e1), .val (.int e2), .val (.ref y1), .val (.ref y2), .val (.ref a670), .val (.int (0 : Int32))]) rfl ?_
        exact s326 T680 h674 y2 a670 ka kw kl t0 t1 t2 e0 e1 e2 0 _ _ _ _ _ _ _ _ _ _ _ _ _ _ O4 hkl tE tK tW hkw S4 (Or.inr ⟨rfl, fun z => c681 z.2.1⟩) ((W679.up (k' := 30) (j' := 300) (by decide) (by decide) (by decide) (by decide)).sf (SF' := []) (fun q hq => nomatch hq))
    · skip
      refine g_acY W679 at_261 (pc' := 323) rfl rfl (by simp [XT.acmp, hka]) (by decide) (by decide) ?_
      refine g_iconst W679 at_323 (pc' := 324) rfl (v := 0) rfl ?_
      refine g_istore W679 at_324 (pc' := 326) rfl (ls' := #[.val (.int kindSel), .val (.int tt), .val (.int kk), .val (.int lens), .val (.int mode), .val (.ref ka), .val (.int (lens &&& 3)), .val (.int kl), .val (.int t0), .val (.int t1), .val (.int t2), s11, s12, s13, s14, .val (.int e0), .val (.int e1), .val (.int e2), .val (.ref y1), .val (.ref y2), .val (.ref a670), .val (.int (0 : Int32))]) rfl ?_
      exact s326 T680 h674 y2 a670 ka kw kl t0 t1 t2 e0 e1 e2 0 _ _ _ _ _ _ _ _ _ _ _ _ _ _ O4 hkl tE tK tW hkw S4 (Or.inr ⟨rfl, fun z => hka z.1⟩) ((W679.up (k' := 30) (j' := 300) (by decide) (by decide) (by decide) (by decide)).sf (SF' := []) (fun q hq => nomatch hq))
  have s86 : ∀ (T : State) (ka : Addr) (kl t0 t1 t2 d0 d1 d2 md : Int32), (kl = 0 ∨ kl = 1 ∨ kl = 2 ∨ kl = 3) → own_bd t0 → own_bd t1 → own_bd t2 → own_bd d0 → own_bd d1 → own_bd d2 → Owk p l e room_1 s m #[(.int kindSel), (.int tt), (.int kk), (.int lens), (.int mode)] below meth c Z a0 consts_1 [] "com/example/tabent/tabent/query/TokenIsPinLaw" "law" code maxLocals ret T h0 [] 0 0 → Ogo p l e room_1 s m #[(.int kindSel), (.int tt), (.int kk), (.int lens), (.int mode)] below meth c Z a0 consts_1 [] "com/example/tabent/tabent/query/TokenIsPinLaw" "law" code maxLocals ret T (mkF m 86 #[.val (.int kindSel), .val (.int tt), .val (.int kk), .val (.int lens), .val (.int mode), .val (.ref ka), .val (.int (lens &&& 3)), .val (.int kl), .val (.int t0), .val (.int t1), .val (.int t2), .val (.int d0), .val (.int d1), .val (.int d2), .val (.int md), .unset, .unset, .unset, .unset, .unset, .unset, .unset] []) (fun v h _ => v = some (.int 1)) := by
    intro T ka kl t0 t1 t2 d0 d1 d2 md hkl bt0 bt1 bt2 bd0 bd1 bd2 W0
    refine g_iload W0 at_86 (pc' := 88) rfl rfl ?_
    by_cases c745 : md = (0 : Int32)
    · skip
      refine g_ifN W0 at_88 (pc' := 91) (teq c745).2 rfl ?_
      refine g_iload W0 at_91 (pc' := 93) rfl rfl ?_
      refine g_static W0 at_93 (pc' := 96) rfl (hw _ (List.mem_of_getElem? (i := 11) rfl)) (hw _ (List.mem_of_getElem? (i := 12) rfl)) (hw _ (List.mem_of_getElem? (i := 2) rfl)) (hw _ (List.mem_of_getElem? (i := 13) rfl)) (by decide) (con_upc l Z a0 hw hEL t0 h0 bt0) pd__C_C (argsL := [(.int t0)]) (st := []) rfl rfl rfl rfl (by decide) (w := 0) (Nat.le_of_eq rfl) (by decide) (by decide) (by decide) (by simp) (fun q hq => nomatch hq) ?_
      intro v746 T747 h748 S751 q749 W752
      have W750 := W752.sf (SF' := []) (fun _ hx => List.mem_append_right _ hx)
      obtain ⟨rfl, rfl⟩ := q749
      refine g_istore W750 at_96 (pc' := 98) rfl (ls' := #[.val (.int kindSel), .val (.int tt), .val (.int kk), .val (.int lens), .val (.int mode), .val (.ref ka), .val (.int (lens &&& 3)), .val (.int kl), .val (.int t0), .val (.int t1), .val (.int t2), .val (.int d0), .val (.int d1), .val (.int d2), .val (.int md), .val (.int (own_up t0)), .unset, .unset, .unset, .unset, .unset, .unset]) rfl ?_
      refine g_iload W750 at_98 (pc' := 100) rfl rfl ?_
      refine g_static W750 at_100 (pc' := 103) rfl (hw _ (List.mem_of_getElem? (i := 11) rfl)) (hw _ (List.mem_of_getElem? (i := 12) rfl)) (hw _ (List.mem_of_getElem? (i := 2) rfl)) (hw _ (List.mem_of_getElem? (i := 13) rfl)) (by decide) (con_upc l Z a0 hw hEL t1 h0 bt1) pd__C_C (argsL := [(.int t1)]) (st := []) rfl rfl rfl rfl (by decide) (w := 0) (Nat.le_of_eq rfl) (by decide) (by decide) (by decide) (by simp) (fun q hq => nomatch hq) ?_
      intro v753 T754 h755 S758 q756 W759
      have W757 := W759.sf (SF' := []) (fun _ hx => List.mem_append_right _ hx)
      obtain ⟨rfl, rfl⟩ := q756
      refine g_istore W757 at_103 (pc' := 105) rfl (ls' := #[.val (.int kindSel), .val (.int tt), .val (.int kk), .val (.int lens), .val (.int mode), .val (.ref ka), .val (.int (lens &&& 3)), .val (.int kl), .val (.int t0), .val (.int t1), .val (.int t2), .val (.int d0), .val (.int d1), .val (.int d2), .val (.int md), .val (.int (own_up t0)), .val (.int (own_up t1)), .unset, .unset, .unset, .unset, .unset]) rfl ?_
      refine g_iload W757 at_105 (pc' := 107) rfl rfl ?_
      refine g_static W757 at_107 (pc' := 110) rfl (hw _ (List.mem_of_getElem? (i := 11) rfl)) (hw _ (List.mem_of_getElem? (i := 12) rfl)) (hw _ (List.mem_of_getElem? (i := 2) rfl)) (hw _ (List.mem_of_getElem? (i := 13) rfl)) (by decide) (con_upc l Z a0 hw hEL t2 h0 bt2) pd__C_C (argsL := [(.int t2)]) (st := []) rfl rfl rfl rfl (by decide) (w := 0) (Nat.le_of_eq rfl) (by decide) (by decide) (by decide) (by simp) (fun q hq => nomatch hq) ?_
      intro v760 T761 h762 S765 q763 W766
      have W764 := W766.sf (SF' := []) (fun _ hx => List.mem_append_right _ hx)
      obtain ⟨rfl, rfl⟩ := q763
      refine g_istore W764 at_110 (pc' := 112) rfl (ls' := #[.val (.int kindSel), .val (.int tt), .val (.int kk), .val (.int lens), .val (.int mode), .val (.ref ka), .val (.int (lens &&& 3)), .val (.int kl), .val (.int t0), .val (.int t1), .val (.int t2), .val (.int d0), .val (.int d1), .val (.int d2), .val (.int md), .val (.int (own_up t0)), .val (.int (own_up t1)), .val (.int (own_up t2)), .unset, .unset, .unset, .unset]) rfl ?_
      refine g_goto W764 at_112 (pc' := 215) (by decide) (by decide) ?_
      exact s215 T761 ka kl t0 t1 t2 (own_up t0) (own_up t1) (own_up t2) _ _ _ _ _ One.u hkl bt0 bt1 bt2 (own_up_bd bt0) (own_up_bd bt1) (own_up_bd bt2) W764
    · skip
      refine g_ifY W0 at_88 (pc' := 115) (feq c745).2 (by decide) (by decide) ?_
      refine g_iload W0 at_115 (pc' := 117) rfl rfl ?_
      refine g_iconst W0 at_117 (pc' := 118) rfl (v := 1) rfl ?_
      by_cases c767 : md = (1 : Int32)
      · skip
        refine g_icN W0 at_118 (pc' := 121) (teq c767).2 rfl ?_
        refine g_iload W0 at_121 (pc' := 123) rfl rfl ?_
        refine g_istore W0 at_123 (pc' := 125) rfl (ls' := #[.val (.int kindSel), .val (.int tt), .val (.int kk), .val (.int lens), .val (.int mode), .val (.ref ka), .val (.int (lens &&& 3)), .val (.int kl), .val (.int t0), .val (.int t1), .val (.int t2), .val (.int d0), .val (.int d1), .val (.int d2), .val (.int md), .val (.int t0), .unset, .unset, .unset, .unset, .unset, .unset]) rfl ?_
        refine g_iload W0 at_125 (pc' := 127) rfl rfl ?_
        refine g_istore W0 at_127 (pc' := 129) rfl (ls' := #[.val (.int kindSel), .val (.int tt), .val (.int kk), .val (.int lens), .val (.int mode), .val (.ref ka), .val (.int (lens &&& 3)), .val (.int kl), .val (.int t0), .val (.int t1), .val (.int t2), .val (.int d0), .val (.int d1), .val (.int d2), .val (.int md), .val (.int t0), .val (.int t1), .unset, .unset, .unset, .unset, .unset]) rfl ?_
        refine g_iload W0 at_129 (pc' := 131) rfl rfl ?_
        refine g_istore W0 at_131 (pc' := 133) rfl (ls' := #[.val (.int kindSel), .val (.int tt), .val (.int kk), .val (.int lens), .val (.int mode), .val (.ref ka), .val (.int (lens &&& 3)), .val (.int kl), .val (.int t0), .val (.int t1), .val (.int t2), .val (.int d0), .val (.int d1), .val (.int d2), .val (.int md), .val (.int t0), .val (.int t1), .val (.int t2), .unset, .unset, .unset, .unset]) rfl ?_
        refine g_goto W0 at_133 (pc' := 215) (by decide) (by decide) ?_
        exact s215 T ka kl t0 t1 t2 t0 t1 t2 _ _ _ _ _ One.u hkl bt0 bt1 bt2 bt0 bt1 bt2 W0
      · skip
        refine g_icY W0 at_118 (pc' := 136) (feq c767).2 (by decide) (by decide) ?_
        refine g_iload W0 at_136 (pc' := 138) rfl rfl ?_
        refine g_iconst W0 at_138 (pc' := 139) rfl (v := 2) rfl ?_
        by_cases c768 : md = (2 : Int32)
        · skip
          refine g_icN W0 at_139 (pc' := 142) (teq c768).2 rfl ?_
          refine g_iload W0 at_142 (pc' := 144) rfl rfl ?_
          refine g_istore W0 at_144 (pc' := 146) rfl (ls' := #[.val (.int kindSel), .val (.int tt), .val (.int kk), .val (.int lens), .val (.int mode), .val (.ref ka), .val (.int (lens &&& 3)), .val (.int kl), .val (.int t0), .val (.int t1), .val (.int t2), .val (.int d0), .val (.int d1), .val (.int d2), .val (.int md), .val (.int d0), .unset, .unset, .unset, .unset, .unset, .unset]) rfl ?_
          refine g_iload W0 at_146 (pc' := 148) rfl rfl ?_
          refine g_istore W0 at_148 (pc' := 150) rfl (ls' := #[.val (.int kindSel), .val (.int tt), .val (.int kk), .val (.int lens), .val (.int mode), .val (.ref ka), .val (.int (lens &&& 3)), .val (.int kl), .val (.int t0), .val (.int t1), .val (.int t2), .val (.int d0), .val (.int d1), .val (.int d2), .val (.int md), .val (.int d0), .val (.int d1), .unset, .unset, .unset, .unset, .unset]) rfl ?_
          refine g_iload W0 at_150 (pc' := 152) rfl rfl ?_
          refine g_istore W0 at_152 (pc' := 154) rfl (ls' := #[.val (.int kindSel), .val (.int tt), .val (.int kk), .val (.int lens), .val (.int mode), .val (.ref ka), .val (.int (lens &&& 3)), .val (.int kl), .val (.int t0), .val (.int t1), .val (.int t2), .val (.int d0), .val (.int d1), .val (.int d2), .val (.int md), .val (.int d0), .val (.int d1), .val (.int d2), .unset, .unset, .unset, .unset]) rfl ?_
          refine g_goto W0 at_154 (pc' := 215) (by decide) (by decide) ?_
          exact s215 T ka kl t0 t1 t2 d0 d1 d2 _ _ _ _ _ One.u hkl bt0 bt1 bt2 bd0 bd1 bd2 W0
        · skip
          refine g_icY W0 at_139 (pc' := 157) (feq c768).2 (by decide) (by decide) ?_
          refine g_iload W0 at_157 (pc' := 159) rfl rfl ?_
          refine g_static W0 at_159 (pc' := 162) rfl (hw _ (List.mem_of_getElem? (i := 11) rfl)) (hw _ (List.mem_of_getElem? (i := 12) rfl)) (hw _ (List.mem_of_getElem? (i := 2) rfl)) (hw _ (List.mem_of_getElem? (i := 13) rfl)) (by decide) (con_upc l Z a0 hw hEL t0 h0 bt0) pd__C_C (argsL := [(.int t0)]) (st := []) rfl rfl rfl rfl (by decide) (w := 0) (Nat.le_of_eq rfl) (by decide) (by decide) (by decide) (by simp) (fun q hq => nomatch hq) ?_
          intro v769 T770 h771 S774 q772 W775
          have W773 := W775.sf (SF' := []) (fun _ hx => List.mem_append_right _ hx)
          obtain ⟨rfl, rfl⟩ := q772
          refine g_istore W773 at_162 (pc' := 164) rfl (ls' := #[.val (.int kindSel), .val (.int tt), .val (.int kk), .val (.int lens), .val (.int mode), .val (.ref ka), .val (.int (lens &&& 3)), .val (.int kl), .val (.int t0), .val (.int t1), .val (.int t2), .val (.int d0), .val (.int d1), .val (.int d2), .val (.int md), .val (.int (own_up t0)), .unset, .unset, .unset, .unset, .unset, .unset]) rfl ?_
          refine g_iload W773 at_164 (pc' := 166) rfl rfl ?_
          refine g_static W773 at_166 (pc' := 169) rfl (hw _ (List.mem_of_getElem? (i := 11) rfl)) (hw _ (List.mem_of_getElem? (i := 12) rfl)) (hw _ (List.mem_of_getElem? (i := 2) rfl)) (hw _ (List.mem_of_getElem? (i := 13) rfl)) (by decide) (con_upc l Z a0 hw hEL t1 h0 bt1) pd__C_C (argsL := [(.int t1)]) (st := []) rfl rfl rfl rfl (by decide) (w := 0) (Nat.le_of_eq rfl) (by decide) (by decide) (by decide) (by simp) (fun q hq => nomatch hq) ?_
          intro v776 T777 h778 S781 q779 W782
          have W780 := W782.sf (SF' := []) (fun _ hx => List.mem_append_right _ hx)
          obtain ⟨rfl, rfl⟩ := q779
          refine g_istore W780 at_169 (pc' := 171) rfl (ls' := #[.val (.int kindSel), .val (.int tt), .val (.int kk), .val (.int lens), .val (.int mode), .val (.ref ka), .val (.int (lens &&& 3)), .val (.int kl), .val (.int t0), .val (.int t1), .val (.int t2), .val (.int d0), .val (.int d1), .val (.int d2), .val (.int md), .val (.int (own_up t0)), .val (.int (own_up t1)), .unset, .unset, .unset, .unset, .unset]) rfl ?_
          refine g_iload W780 at_171 (pc' := 173) rfl rfl ?_
          refine g_static W780 at_173 (pc' := 176) rfl (hw _ (List.mem_of_getElem? (i := 11) rfl)) (hw _ (List.mem_of_getElem? (i := 12) rfl)) (hw _ (List.mem_of_getElem? (i := 2) rfl)) (hw _ (List.mem_of_getElem? (i := 13) rfl)) (by decide) (con_upc l Z a0 hw hEL t2 h0 bt2) pd__C_C (argsL := [(.int t2)]) (st := []) rfl rfl rfl rfl (by decide) (w := 0) (Nat.le_of_eq rfl) (by decide) (by decide) (by decide) (by simp) (fun q hq => nomatch hq) ?_
          intro v783 T784 h785 S788 q786 W789
          have W787 := W789.sf (SF' := []) (fun _ hx => List.mem_append_right _ hx)
          obtain ⟨rfl, rfl⟩ := q786
          refine g_istore W787 at_176 (pc' := 178) rfl (ls' := #[.val (.int kindSel), .val (.int tt), .val (.int kk), .val (.int lens), .val (.int mode), .val (.ref ka), .val (.int (lens &&& 3)), .val (.int kl), .val (.int t0), .val (.int t1), .val (.int t2), .val (.int d0), .val (.int d1), .val (.int d2), .val (.int md), .val (.int (own_up t0)), .val (.int (own_up t1)), .val (.int (own_up t2)), .unset, .unset, .unset, .unset]) rfl ?_
          refine g_iload W787 at_178 (pc' := 180) rfl rfl ?_
          refine g_iconst W787 at_180 (pc' := 181) rfl (v := 3) rfl ?_
          refine g_iushr W787 at_181 (pc' := 182) rfl ?_
          refine g_iconst W787 at_182 (pc' := 183) rfl (v := 3) rfl ?_
          refine g_irem W787 at_183 (pc' := 184) rfl (by decide) ?_
          refine g_istore W787 at_184 (pc' := 186) rfl (ls' := #[.val (.int kindSel), .val (.int tt), .val (.int kk), .val (.int lens), .val (.int mode), .val (.ref ka), .val (.int (lens &&& 3)), .val (.int kl), .val (.int t0), .val (.int t1), .val (.int t2), .val (.int d0), .val (.int d1), .val (.int d2), .val (.int md), .val (.int (own_up t0)), .val (.int (own_up t1)), .val (.int (own_up t2)), .val (.int ((XT.ushr mode (3 : Int32)) % (3 : Int32))), .unset, .unset, .unset]) rfl ?_
          refine g_iload W787 at_186 (pc' := 188) rfl rfl ?_
          by_cases c790 : ((XT.ushr mode (3 : Int32)) % (3 : Int32)) = (0 : Int32)
          · skip
            refine g_ifN W787 at_188 (pc' := 191) (teq c790).2 rfl ?_
            refine g_iload W787 at_191 (pc' := 193) rfl rfl ?_
            refine g_istore W787 at_193 (pc' := 195) rfl (ls' := #[.val (.int kindSel), .val (.int tt), .val (.int kk), .val (.int lens), .val (.int mode), .val (.ref ka), .val (.int (lens &&& 3)), .val (.int kl), .val (.int t0), .val (.int t1), .val (.int t2), .val (.int d0), .val (.int d1), .val (.int d2), .val (.int md), .val (.int d0), .val (.int (own_up t1)), .val (.int (own_up t2)), .val (.int ((XT.ushr mode (3 : Int32)) % (3 : Int32))), .unset, .unset, .unset]) rfl ?_
            refine g_goto W787 at_195 (pc' := 215) (by decide) (by decide) ?_
            exact s215 T784 ka kl t0 t1 t2 d0 (own_up t1) (own_up t2) _ _ _ _ _ (One.val rfl) hkl bt0 bt1 bt2 bd0 (own_up_bd bt1) (own_up_bd bt2) W787
          · skip
            refine g_ifY W787 at_188 (pc' := 198) (feq c790).2 (by decide) (by decide) ?_
            refine g_iload W787 at_198 (pc' := 200) rfl rfl ?_
            refine g_iconst W787 at_200 (pc' := 201) rfl (v := 1) rfl ?_
            by_cases c791 : ((XT.ushr mode (3 : Int32)) % (3 : Int32)) = (1 : Int32)
            · skip
              refine g_icN W787 at_201 (pc' := 204) (teq c791).2 rfl ?_
              refine g_iload W787 at_204 (pc' := 206) rfl rfl ?_
              refine g_istore W787 at_206 (pc' := 208) rfl (ls' := #[.val (.int kindSel), .val (.int tt), .val (.int kk), .val (.int lens), .val (.int mode), .val (.ref ka), .val (.int (lens &&& 3)), .val (.int kl), .val (.int t0), .val (.int t1), .val (.int t2), .val (.int d0), .val (.int d1), .val (.int d2), .val (.int md), .val (.int (own_up t0)), .val (.int d1), .val (.int (own_up t2)), .val (.int ((XT.ushr mode (3 : Int32)) % (3 : Int32))), .unset, .unset, .unset]) rfl ?_
              refine g_goto W787 at_208 (pc' := 215) (by decide) (by decide) ?_
              exact s215 T784 ka kl t0 t1 t2 (own_up t0) d1 (own_up t2) _ _ _ _ _ (One.val rfl) hkl bt0 bt1 bt2 (own_up_bd bt0) bd1 (own_up_bd bt2) W787
            · skip
              refine g_icY W787 at_201 (pc' := 211) (feq c791).2 (by decide) (by decide) ?_
              refine g_iload W787 at_211 (pc' := 213) rfl rfl ?_
              refine g_istore W787 at_213 (pc' := 215) rfl (ls' := #[.val (.int kindSel), .val (.int tt), .val (.int kk), .val (.int lens), .val (.int mode), .val (.ref ka), .val (.int (lens &&& 3)), .val (.int kl), .val (.int t0), .val (.int t1), .val (.int t2), .val (.int d0), .val (.int d1), .val (.int d2), .val (.int md), .val (.int (own_up t0)), .val (.int (own_up t1)), .val (.int d2), .val (.int ((XT.ushr mode (3 : Int32)) % (3 : Int32))), .unset, .unset, .unset]) rfl ?_
              exact s215 T784 ka kl t0 t1 t2 (own_up t0) (own_up t1) d2 _ _ _ _ _ (One.val rfl) hkl bt0 bt1 bt2 (own_up_bd bt0) (own_up_bd bt1) bd2 W787
  have s32 : ∀ (T : State) (ka : Addr) (kl : Int32), (kl = 0 ∨ kl = 1 ∨ kl = 2 ∨ kl = 3) → Owk p l e room_1 s m #[(.int kindSel), (.int tt), (.int kk), (.int lens), (.int mode)] below meth c Z a0 consts_1 [] "com/example/tabent/tabent/query/TokenIsPinLaw" "law" code maxLocals ret T h0 [] 0 0 → Ogo p l e room_1 s m #[(.int kindSel), (.int tt), (.int kk), (.int lens), (.int mode)] below meth c Z a0 consts_1 [] "com/example/tabent/tabent/query/TokenIsPinLaw" "law" code maxLocals ret T (mkF m 32 #[.val (.int kindSel), .val (.int tt), .val (.int kk), .val (.int lens), .val (.int mode), .val (.ref ka), .val (.int (lens &&& 3)), .val (.int kl), .unset, .unset, .unset, .unset, .unset, .unset, .unset, .unset, .unset, .unset, .unset, .unset, .unset, .unset] []) (fun v h _ => v = some (.int 1)) := by
    intro T ka kl hkl W0
    refine g_iloadN W0 at_32 (pc' := 33) rfl rfl ?_
    refine g_static W0 at_33 (pc' := 36) rfl (hw _ (List.mem_of_getElem? (i := 8) rfl)) (hw _ (List.mem_of_getElem? (i := 9) rfl)) (hw _ (List.mem_of_getElem? (i := 2) rfl)) (hw _ (List.mem_of_getElem? (i := 10) rfl)) (by decide) (con_drw l Z a0 hw hEL tt h0) pd__I_C (argsL := [(.int tt)]) (st := []) rfl rfl rfl rfl (by decide) (w := 0) (Nat.le_of_eq rfl) (by decide) (by decide) (by decide) (by simp) (fun q hq => nomatch hq) ?_
    intro v792 T793 h794 S797 q795 W798
    have W796 := W798.sf (SF' := []) (fun _ hx => List.mem_append_right _ hx)
    obtain ⟨t0, rfl, bt0, rfl⟩ := q795
    refine g_istore W796 at_36 (pc' := 38) rfl (ls' := #[.val (.int kindSel), .val (.int tt), .val (.int kk), .val (.int lens), .val (.int mode), .val (.ref ka), .val (.int (lens &&& 3)), .val (.int kl), .val (.int t0), .unset, .unset, .unset, .unset, .unset, .unset, .unset, .unset, .unset, .unset, .unset, .unset, .unset]) rfl ?_
    refine g_iloadN W796 at_38 (pc' := 39) rfl rfl ?_
    refine g_bipush W796 at_39 (pc' := 41) rfl (v := 10) rfl ?_
    refine g_iushr W796 at_41 (pc' := 42) rfl ?_
    refine g_static W796 at_42 (pc' := 45) rfl (hw _ (List.mem_of_getElem? (i := 8) rfl)) (hw _ (List.mem_of_getElem? (i := 9) rfl)) (hw _ (List.mem_of_getElem? (i := 2) rfl)) (hw _ (List.mem_of_getElem? (i := 10) rfl)) (by decide) (con_drw l Z a0 hw hEL (XT.ushr tt (10 : Int32)) h0) pd__I_C (argsL := [(.int (XT.ushr tt (10 : Int32)))]) (st := []) rfl rfl rfl rfl (by decide) (w := 0) (Nat.le_of_eq rfl) (by decide) (by decide) (by decide) (by simp) (fun q hq => nomatch hq) ?_
    intro v799 T800 h801 S804 q802 W805
    have W803 := W805.sf (SF' := []) (fun _ hx => List.mem_append_right _ hx)
    obtain ⟨t1, rfl, bt1, rfl⟩ := q802
    refine g_istore W803 at_45 (pc' := 47) rfl (ls' := #[.val (.int kindSel), .val (.int tt), .val (.int kk), .val (.int lens), .val (.int mode), .val (.ref ka), .val (.int (lens &&& 3)), .val (.int kl), .val (.int t0), .val (.int t1), .unset, .unset, .unset, .unset, .unset, .unset, .unset, .unset, .unset, .unset, .unset, .unset]) rfl ?_
    refine g_iloadN W803 at_47 (pc' := 48) rfl rfl ?_
    refine g_bipush W803 at_48 (pc' := 50) rfl (v := 20) rfl ?_
    refine g_iushr W803 at_50 (pc' := 51) rfl ?_
    refine g_static W803 at_51 (pc' := 54) rfl (hw _ (List.mem_of_getElem? (i := 8) rfl)) (hw _ (List.mem_of_getElem? (i := 9) rfl)) (hw _ (List.mem_of_getElem? (i := 2) rfl)) (hw _ (List.mem_of_getElem? (i := 10) rfl)) (by decide) (con_drw l Z a0 hw hEL (XT.ushr tt (20 : Int32)) h0) pd__I_C (argsL := [(.int (XT.ushr tt (20 : Int32)))]) (st := []) rfl rfl rfl rfl (by decide) (w := 0) (Nat.le_of_eq rfl) (by decide) (by decide) (by decide) (by simp) (fun q hq => nomatch hq) ?_
    intro v806 T807 h808 S811 q809 W812
    have W810 := W812.sf (SF' := []) (fun _ hx => List.mem_append_right _ hx)
    obtain ⟨t2, rfl, bt2, rfl⟩ := q809
    refine g_istore W810 at_54 (pc' := 56) rfl (ls' := #[.val (.int kindSel), .val (.int tt), .val (.int kk), .val (.int lens), .val (.int mode), .val (.ref ka), .val (.int (lens &&& 3)), .val (.int kl), .val (.int t0), .val (.int t1), .val (.int t2), .unset, .unset, .unset, .unset, .unset, .unset, .unset, .unset, .unset, .unset, .unset]) rfl ?_
    refine g_iloadN W810 at_56 (pc' := 57) rfl rfl ?_
    refine g_static W810 at_57 (pc' := 60) rfl (hw _ (List.mem_of_getElem? (i := 8) rfl)) (hw _ (List.mem_of_getElem? (i := 9) rfl)) (hw _ (List.mem_of_getElem? (i := 2) rfl)) (hw _ (List.mem_of_getElem? (i := 10) rfl)) (by decide) (con_drw l Z a0 hw hEL kk h0) pd__I_C (argsL := [(.int kk)]) (st := []) rfl rfl rfl rfl (by decide) (w := 0) (Nat.le_of_eq rfl) (by decide) (by decide) (by decide) (by simp) (fun q hq => nomatch hq) ?_
    intro v813 T814 h815 S818 q816 W819
    have W817 := W819.sf (SF' := []) (fun _ hx => List.mem_append_right _ hx)
    obtain ⟨d0, rfl, bd0, rfl⟩ := q816
    refine g_istore W817 at_60 (pc' := 62) rfl (ls' := #[.val (.int kindSel), .val (.int tt), .val (.int kk), .val (.int lens), .val (.int mode), .val (.ref ka), .val (.int (lens &&& 3)), .val (.int kl), .val (.int t0), .val (.int t1), .val (.int t2), .val (.int d0), .unset, .unset, .unset, .unset, .unset, .unset, .unset, .unset, .unset, .unset]) rfl ?_
    refine g_iloadN W817 at_62 (pc' := 63) rfl rfl ?_
    refine g_bipush W817 at_63 (pc' := 65) rfl (v := 10) rfl ?_
    refine g_iushr W817 at_65 (pc' := 66) rfl ?_
    refine g_static W817 at_66 (pc' := 69) rfl (hw _ (List.mem_of_getElem? (i := 8) rfl)) (hw _ (List.mem_of_getElem? (i := 9) rfl)) (hw _ (List.mem_of_getElem? (i := 2) rfl)) (hw _ (List.mem_of_getElem? (i := 10) rfl)) (by decide) (con_drw l Z a0 hw hEL (XT.ushr kk (10 : Int32)) h0) pd__I_C (argsL := [(.int (XT.ushr kk (10 : Int32)))]) (st := []) rfl rfl rfl rfl (by decide) (w := 0) (Nat.le_of_eq rfl) (by decide) (by decide) (by decide) (by simp) (fun q hq => nomatch hq) ?_
    intro v820 T821 h822 S825 q823 W826
    have W824 := W826.sf (SF' := []) (fun _ hx => List.mem_append_right _ hx)
    obtain ⟨d1, rfl, bd1, rfl⟩ := q823
    refine g_istore W824 at_69 (pc' := 71) rfl (ls' := #[.val (.int kindSel), .val (.int tt), .val (.int kk), .val (.int lens), .val (.int mode), .val (.ref ka), .val (.int (lens &&& 3)), .val (.int kl), .val (.int t0), .val (.int t1), .val (.int t2), .val (.int d0), .val (.int d1), .unset, .unset, .unset, .unset, .unset, .unset, .unset, .unset, .unset]) rfl ?_
    refine g_iloadN W824 at_71 (pc' := 72) rfl rfl ?_
    refine g_bipush W824 at_72 (pc' := 74) rfl (v := 20) rfl ?_
    refine g_iushr W824 at_74 (pc' := 75) rfl ?_
    refine g_static W824 at_75 (pc' := 78) rfl (hw _ (List.mem_of_getElem? (i := 8) rfl)) (hw _ (List.mem_of_getElem? (i := 9) rfl)) (hw _ (List.mem_of_getElem? (i := 2) rfl)) (hw _ (List.mem_of_getElem? (i := 10) rfl)) (by decide) (con_drw l Z a0 hw hEL (XT.ushr kk (20 : Int32)) h0) pd__I_C (argsL := [(.int (XT.ushr kk (20 : Int32)))]) (st := []) rfl rfl rfl rfl (by decide) (w := 0) (Nat.le_of_eq rfl) (by decide) (by decide) (by decide) (by simp) (fun q hq => nomatch hq) ?_
    intro v827 T828 h829 S832 q830 W833
    have W831 := W833.sf (SF' := []) (fun _ hx => List.mem_append_right _ hx)
    obtain ⟨d2, rfl, bd2, rfl⟩ := q830
    refine g_istore W831 at_78 (pc' := 80) rfl (ls' := #[.val (.int kindSel), .val (.int tt), .val (.int kk), .val (.int lens), .val (.int mode), .val (.ref ka), .val (.int (lens &&& 3)), .val (.int kl), .val (.int t0), .val (.int t1), .val (.int t2), .val (.int d0), .val (.int d1), .val (.int d2), .unset, .unset, .unset, .unset, .unset, .unset, .unset, .unset]) rfl ?_
    refine g_iload W831 at_80 (pc' := 82) rfl rfl ?_
    refine g_iconst W831 at_82 (pc' := 83) rfl (v := 3) rfl ?_
    refine g_iand W831 at_83 (pc' := 84) rfl ?_
    refine g_istore W831 at_84 (pc' := 86) rfl (ls' := #[.val (.int kindSel), .val (.int tt), .val (.int kk), .val (.int lens), .val (.int mode), .val (.ref ka), .val (.int (lens &&& 3)), .val (.int kl), .val (.int t0), .val (.int t1), .val (.int t2), .val (.int d0), .val (.int d1), .val (.int d2), .val (.int (mode &&& (3 : Int32))), .unset, .unset, .unset, .unset, .unset, .unset, .unset]) rfl ?_
    exact s86 T828 ka kl t0 t1 t2 d0 d1 d2 _ hkl bt0 bt1 bt2 bd0 bd1 bd2 W831
  have ef : entryFrame m #[(.int kindSel), (.int tt), (.int kk), (.int lens), (.int mode)] maxLocals = mkF m 0 #[.val (.int kindSel), .val (.int tt), .val (.int kk), .val (.int lens), .val (.int mode), .unset, .unset, .unset, .unset, .unset, .unset, .unset, .unset, .unset, .unset, .unset, .unset, .unset, .unset, .unset, .unset, .unset] [] := own_entry m [(.int kindSel), (.int tt), (.int kk), (.int lens), (.int mode)] maxLocals (by simp [Value.category]) rfl
  rw [ef]
  refine g_iloadN W00 at_0 (pc' := 1) rfl rfl ?_
  refine g_static W00 at_1 (pc' := 4) rfl (hw _ (List.mem_of_getElem? (i := 0) rfl)) (hw _ (List.mem_of_getElem? (i := 1) rfl)) (hw _ (List.mem_of_getElem? (i := 2) rfl)) (hw _ (List.mem_of_getElem? (i := 3) rfl)) (by decide) (con_kof l Z a0 hw hEL k0 k1 k2 k3 k4 k5 k6 k7 k8 SK0 SK1 SK2 SK3 SK4 SK5 SK6 SK7 SK8 kindSel h0 O) pd__I_Lcom_example_tabent_tabent_query_Token_Kind_ (argsL := [(.int kindSel)]) (st := []) rfl rfl rfl rfl (by decide) (w := 0) (Nat.le_of_eq rfl) (by decide) (by decide) (by decide) (by simp) (fun q hq => nomatch hq) ?_
  intro v834 T835 h836 S839 q837 W840
  have W838 := W840.sf (SF' := []) (fun _ hx => List.mem_append_right _ hx)
  obtain ⟨ka, rfl, rfl⟩ := q837
  refine g_astore W838 at_4 (pc' := 6) rfl (ls' := #[.val (.int kindSel), .val (.int tt), .val (.int kk), .val (.int lens), .val (.int mode), .val (.ref ka), .unset, .unset, .unset, .unset, .unset, .unset, .unset, .unset, .unset, .unset, .unset, .unset, .unset, .unset, .unset, .unset]) rfl rfl ?_
  refine g_iloadN W838 at_6 (pc' := 7) rfl rfl ?_
  refine g_iconst W838 at_7 (pc' := 8) rfl (v := 3) rfl ?_
  refine g_iand W838 at_8 (pc' := 9) rfl ?_
  refine g_istore W838 at_9 (pc' := 11) rfl (ls' := #[.val (.int kindSel), .val (.int tt), .val (.int kk), .val (.int lens), .val (.int mode), .val (.ref ka), .val (.int (lens &&& (3 : Int32))), .unset, .unset, .unset, .unset, .unset, .unset, .unset, .unset, .unset, .unset, .unset, .unset, .unset, .unset, .unset]) rfl ?_
  refine g_iload W838 at_11 (pc' := 13) rfl rfl ?_
  refine g_iconst W838 at_13 (pc' := 14) rfl (v := 2) rfl ?_
  refine g_iushr W838 at_14 (pc' := 15) rfl ?_
  refine g_iconst W838 at_15 (pc' := 16) rfl (v := 1) rfl ?_
  refine g_iand W838 at_16 (pc' := 17) rfl ?_
  by_cases c841 : ((XT.ushr mode (2 : Int32)) &&& (1 : Int32)) = (0 : Int32)
  · skip
    refine g_ifN W838 at_17 (pc' := 20) (teq c841).2 rfl ?_
    refine g_iload W838 at_20 (pc' := 22) rfl rfl ?_
    refine g_goto W838 at_22 (pc' := 30) (by decide) (by decide) ?_
    refine g_istore W838 at_30 (pc' := 32) rfl (ls' := #[.val (.int kindSel), .val (.int tt), .val (.int kk), .val (.int lens), .val (.int mode), .val (.ref ka), .val (.int (lens &&& (3 : Int32))), .val (.int (lens &&& (3 : Int32))), .unset, .unset, .unset, .unset, .unset, .unset, .unset, .unset, .unset, .unset, .unset, .unset, .unset, .unset]) rfl ?_
    exact s32 T835 ka _ (own_and3 _) W838
  · skip
    refine g_ifY W838 at_17 (pc' := 25) (feq c841).2 (by decide) (by decide) ?_
    refine g_iloadN W838 at_25 (pc' := 26) rfl rfl ?_
    refine g_iconst W838 at_26 (pc' := 27) rfl (v := 2) rfl ?_
    refine g_iushr W838 at_27 (pc' := 28) rfl ?_
    refine g_iconst W838 at_28 (pc' := 29) rfl (v := 3) rfl ?_
    refine g_iand W838 at_29 (pc' := 30) rfl ?_
    refine g_istore W838 at_30 (pc' := 32) rfl (ls' := #[.val (.int kindSel), .val (.int tt), .val (.int kk), .val (.int lens), .val (.int mode), .val (.ref ka), .val (.int (lens &&& (3 : Int32))), .val (.int ((XT.ushr lens (2 : Int32)) &&& (3 : Int32))), .unset, .unset, .unset, .unset, .unset, .unset, .unset, .unset, .unset, .unset, .unset, .unset, .unset, .unset]) rfl ?_
    exact s32 T835 ka _ (own_and3 _) W838
set_option maxRecDepth 65536 in
set_option maxHeartbeats 40000000 in
theorem comes_1 {Post : Tables → Env → Array Value → State → Outcome → State → Prop} (hpost : ∀ tb e args s v u, (limb_1_1.after args s (.returned v) u = true ∧ limb_1_2.after args s (.returned v) u = true ∧ True) → ReturnedEndW s (.returned v) u (Jvm.fieldLocs frame_1_writes args s ++ Jvm.arrayLocs frame_1_arrays args s ++ Jvm.staticLocs frame_1_statics s) 40 1216 → Post tb e args s (.returned v) u) :
    ArmFor flags0 classFile x code maxLocals ret World_1 tables_1 room_1 Calls_1 rest_1 Pre_1 Post := by
  intro l hfl _ _ p e ha hc hk s m args below hf hA hF happ hP
  obtain ⟨hcalls, hrest, hpre⟩ := hP
  obtain ⟨-, -, -, hnamed, -, -, -, hat⟩ := (Spec.applies_iff hf).mp happ
  obtain ⟨hg, hn⟩ := and_e (Cond.before_iff.mp (show (Jvm.Cond.and given_1 narrow_1).before args s = true from hpre))
  obtain ⟨g0, r0⟩ := and_e hg
  obtain ⟨g1, r1⟩ := and_e r0
  obtain ⟨g2, r2⟩ := and_e r1
  obtain ⟨g3, r3⟩ := and_e r2
  obtain ⟨g4, r4⟩ := and_e r3
  obtain ⟨w0, w1, w2, w3, w4, rfl⟩ : ∃ w0 w1 w2 w3 w4 : Value, args = #[w0, w1, w2, w3, w4] := by
    have hs : args.size = 5 := by simpa [Cond.value, given_1] using g0
    obtain ⟨L⟩ := args
    match L, hs with
    | [w0, w1, w2, w3, w4], _ => exact ⟨w0, w1, w2, w3, w4, rfl⟩
  have hw := fun d (hd : d ∈ tables_1) => atoms_spec (ws := Jvm.Cond.code x code maxLocals ret :: tables_1) hat d (List.mem_cons_of_mem _ hd)
  have hfit : Fit s := fun {y c} hc i hi => by
    obtain ⟨ha, rfl⟩ := Array.getElem?_eq_some_iff.mp hc
    have q := List.all_eq_true.mp ((Array.all_eq_true_iff_forall_mem.mp hF) _ (Array.getElem_mem ha)) i (List.mem_range.mpr hi)
    simpa [Array.getElem?_eq_getElem hi] using q
  obtain ⟨hsets, hown0⟩ := atoms_of _ (rest_1_c_eq ▸ (show rest_1_c.before _ s = true from hrest))
  obtain ⟨i0, ei0⟩ := is_v g1
  obtain rfl : w0 = (.int i0) := Option.some.inj ei0
  obtain ⟨i1, ei1⟩ := is_v g2
  obtain rfl : w1 = (.int i1) := Option.some.inj ei1
  obtain ⟨i2, ei2⟩ := is_v g3
  obtain rfl : w2 = (.int i2) := Option.some.inj ei2
  obtain ⟨i3, ei3⟩ := is_v g4
  obtain rfl : w3 = (.int i3) := Option.some.inj ei3
  obtain ⟨i4, ei4⟩ := is_v r4
  obtain rfl : w4 = (.int i4) := Option.some.inj ei4
  have n5 := not_v (Cond.before_iff.mp (hsets _ (List.mem_of_getElem? (i := 2) rfl)))
  obtain ⟨zc, ezc⟩ := is_v (Cond.before_iff.mp (hsets _ (List.mem_of_getElem? (i := 1) rfl)))
  have SC : Sta s s.heap "java/lang/String" "COMPACT_STRINGS" "Z" (.int zc) := Sta.start ezc (Or.inl (hsets _ (List.mem_of_getElem? (i := 0) rfl)))
  have hzc : ¬ (zc = (0 : Int32)) := gotF (Cond.eq_ints ezc (Term.int_eval (0))) n5
  have hEL : EW s _ consts_1 := (EW.cons (text := own_text 140) (hw _ (List.mem_of_getElem? (i := 140) rfl)) (by decide +kernel) EW.nil)
  have hCH : CHv s consts_1 s.vm s.heap := CHv.start hEL (fun q hq => hcalls.1 q hq) (hsets _ (List.mem_of_getElem? (i := 2) rfl)) (hw _ (List.mem_of_getElem? (i := 36) rfl)) (hw _ (List.mem_of_getElem? (i := 18) rfl))
  obtain ⟨fm, efm, hfm⟩ := isR_v (Cond.before_iff.mp (hsets _ (List.mem_of_getElem? (i := 8) rfl)))
  have SF1 : Sta s s.heap "jdk/internal/util/Preconditions" "SIOOBE_FORMATTER" "Ljava/util/function/BiFunction;" fm := Sta.start efm (Or.inl (hsets _ (List.mem_of_getElem? (i := 7) rfl)))
  have SA : Sta s s.heap "java/lang/StringUTF16" "$assertionsDisabled" "Z" (.int 1) := Sta.start (eqv_i (Term.int_eval 1) (Cond.before_iff.mp (hsets _ (List.mem_of_getElem? (i := 12) rfl)))) (Or.inl (hsets _ (List.mem_of_getElem? (i := 11) rfl)))
  have SH : Sta s s.heap "java/lang/StringUTF16" "HI_BYTE_SHIFT" "I" (.int 0) := Sta.start (eqv_i (Term.int_eval 0) (Cond.before_iff.mp (hsets _ (List.mem_of_getElem? (i := 15) rfl)))) (Or.inl (hsets _ (List.mem_of_getElem? (i := 14) rfl)))
  have SL : Sta s s.heap "java/lang/StringUTF16" "LO_BYTE_SHIFT" "I" (.int 8) := Sta.start (eqv_i (Term.int_eval 8) (Cond.before_iff.mp (hsets _ (List.mem_of_getElem? (i := 18) rfl)))) (Or.inl (hsets _ (List.mem_of_getElem? (i := 17) rfl)))
  obtain ⟨c0, q0⟩ := and_e hn
  obtain ⟨c1, q1⟩ := and_e q0
  obtain ⟨c2, q2⟩ := and_e q1
  obtain ⟨c3, q3⟩ := and_e q2
  obtain ⟨c4, q4⟩ := and_e q3
  obtain ⟨c5, q5⟩ := and_e q4
  obtain ⟨c6, q6⟩ := and_e q5
  obtain ⟨c7, q7⟩ := and_e q6
  obtain ⟨c8, q8⟩ := and_e q7
  obtain ⟨c9, q9⟩ := and_e q8
  obtain ⟨c10, q10⟩ := and_e q9
  obtain ⟨c11, q11⟩ := and_e q10
  obtain ⟨c12, q12⟩ := and_e q11
  obtain ⟨c13, q13⟩ := and_e q12
  obtain ⟨c14, q14⟩ := and_e q13
  obtain ⟨c15, q15⟩ := and_e q14
  obtain ⟨c16, q16⟩ := and_e q15
  have c17 := q16
  obtain ⟨k0, ek0⟩ := exa_v c0
  have SK0 : Sta s s.heap "com/example/tabent/tabent/query/Token$Kind" "WORD" "Lcom/example/tabent/tabent/query/Token$Kind;" (.ref k0) := Sta.start ek0 (Or.inr ⟨(hw _ (List.mem_of_getElem? (i := 6) rfl)), (hw _ (List.mem_of_getElem? (i := 7) rfl))⟩)
  obtain ⟨k3, ek3⟩ := exa_v c1
  have SK3 : Sta s s.heap "com/example/tabent/tabent/query/Token$Kind" "LONG" "Lcom/example/tabent/tabent/query/Token$Kind;" (.ref k3) := Sta.start ek3 (Or.inr ⟨(hw _ (List.mem_of_getElem? (i := 6) rfl)), (hw _ (List.mem_of_getElem? (i := 135) rfl))⟩)
  obtain ⟨k8, ek8⟩ := exa_v c4
  have SK8 : Sta s s.heap "com/example/tabent/tabent/query/Token$Kind" "END" "Lcom/example/tabent/tabent/query/Token$Kind;" (.ref k8) := Sta.start ek8 (Or.inr ⟨(hw _ (List.mem_of_getElem? (i := 6) rfl)), (hw _ (List.mem_of_getElem? (i := 137) rfl))⟩)
  obtain ⟨k4, ek4⟩ := exa_v c6
  have SK4 : Sta s s.heap "com/example/tabent/tabent/query/Token$Kind" "DECIMAL" "Lcom/example/tabent/tabent/query/Token$Kind;" (.ref k4) := Sta.start ek4 (Or.inr ⟨(hw _ (List.mem_of_getElem? (i := 6) rfl)), (hw _ (List.mem_of_getElem? (i := 139) rfl))⟩)
  obtain ⟨k6, ek6⟩ := exa_v c8
  have SK6 : Sta s s.heap "com/example/tabent/tabent/query/Token$Kind" "POSITIONAL_PARAMETER" "Lcom/example/tabent/tabent/query/Token$Kind;" (.ref k6) := Sta.start ek6 (Or.inr ⟨(hw _ (List.mem_of_getElem? (i := 6) rfl)), (hw _ (List.mem_of_getElem? (i := 144) rfl))⟩)
  obtain ⟨k7, ek7⟩ := exa_v c10
  have SK7 : Sta s s.heap "com/example/tabent/tabent/query/Token$Kind" "SYMBOL" "Lcom/example/tabent/tabent/query/Token$Kind;" (.ref k7) := Sta.start ek7 (Or.inr ⟨(hw _ (List.mem_of_getElem? (i := 6) rfl)), (hw _ (List.mem_of_getElem? (i := 146) rfl))⟩)
  obtain ⟨k1, ek1⟩ := exa_v c12
  have SK1 : Sta s s.heap "com/example/tabent/tabent/query/Token$Kind" "STRING" "Lcom/example/tabent/tabent/query/Token$Kind;" (.ref k1) := Sta.start ek1 (Or.inr ⟨(hw _ (List.mem_of_getElem? (i := 6) rfl)), (hw _ (List.mem_of_getElem? (i := 148) rfl))⟩)
  obtain ⟨k2, ek2⟩ := exa_v c14
  have SK2 : Sta s s.heap "com/example/tabent/tabent/query/Token$Kind" "INTEGER" "Lcom/example/tabent/tabent/query/Token$Kind;" (.ref k2) := Sta.start ek2 (Or.inr ⟨(hw _ (List.mem_of_getElem? (i := 6) rfl)), (hw _ (List.mem_of_getElem? (i := 150) rfl))⟩)
  obtain ⟨k5, ek5⟩ := exa_v c16
  have SK5 : Sta s s.heap "com/example/tabent/tabent/query/Token$Kind" "NAMED_PARAMETER" "Lcom/example/tabent/tabent/query/Token$Kind;" (.ref k5) := Sta.start ek5 (Or.inr ⟨(hw _ (List.mem_of_getElem? (i := 6) rfl)), (hw _ (List.mem_of_getElem? (i := 158) rfl))⟩)
  obtain ⟨n, o, h1, h2, h3, v, SFo, rfl, rfl, -, -, hq⟩ := con_law l s _ hw hEL zc SC hzc fm hfm SF1 SA SH SL k0 k1 k2 k3 k4 k5 k6 k7 k8 SK0 SK1 SK2 SK3 SK4 SK5 SK6 SK7 SK8 i0 i1 i2 i3 i4 s.heap (own_ext_rf _) p e ha hc hk s m _ below hf ((Spec.applies_iff_loose hf).mp happ).1 ⟨rfl, State.Warmed39.refl s, rfl, hCH, fun q hq => nomatch hq⟩ trivial
  exact ⟨n, _, h1, h2, h3, hpost _ _ _ _ _ _ ⟨Cond.after_iff.mpr rfl, Cond.after_iff.mpr (eq_i res_at (Term.int_eval (1)) rfl), trivial⟩ hq⟩
theorem main_1_1 : Claimed_1_1 := comes_1 fun _ _ _ _ _ _ h hF => ⟨h.1, hF⟩
theorem main_1_2 : Claimed_1_2 := comes_1 fun _ _ _ _ _ _ h hF => ⟨h.2.1, hF⟩
end Jvm.Pilot.@@N@@
namespace Jvm.Pilot.@@N@@
open Jvm Jvm.ClassFile Sem Op Lib Jvm.Free Jvm.Stand Jvm.Pilot.@@N@@.Jvm.D
/-! MADE BY PROGRAM (witnessworld.py) out of the Statement's table words and the real class files: 22 classes; the members and pool entries that the words name. The judged class is class 1, her method 1. -/
namespace start1
open Jvm.ClassFile
def u (s : String) : CpInfo := .utf8 (stringToUtf16 s)
/-- a pool by its gaps: so many unusable entries, then the entry; so many at the end -/
def gap : Nat → List CpInfo → List CpInfo
  | 0, r => r
  | n + 1, r => .unusable :: gap n r
def poolList (es : List (Nat × CpInfo)) (last : Nat) : List CpInfo := es.foldr (fun e r => gap e.1 (e.2 :: r)) (gap last [])
def pool (es : List (Nat × CpInfo)) (last : Nat) : Array CpInfo := ⟨poolList es last⟩
def fileOf (pool : Array CpInfo) (this : Nat) (attrs : Array Attribute := #[]) (ms : Array MethodInfo := #[]) (fl : Nat := 33) (sup : Nat := 0) (ifs : Array Nat := #[]) (fds : Array FieldInfo := #[]) : ClassFile where
  minorVersion := 0
  majorVersion := 65
  constantPool := pool
  accessFlags := fl
  thisClass := this
  superClass := sup
  interfaces := ifs
  fields := fds
  methods := ms
  attributes := attrs
def plain (name : String) (sup : Option ClassId) : Class where
  name := name
  kind := .ordinary
  loader := none
  accessFlags := 33
  super := sup
  interfaces := #[]
  cf := none
  fields := #[]
  methods := #[]
  instanceTypes := #[]
  staticTypes := #[]
  resolved := #[]
  callSites := []
  init := .initialized
  statics := none
  mirror := none

def pool0 : Array CpInfo := pool [(5, u "<init>"), (0, u "()V"), (1, .class_ 10), (1, u "java/lang/Object")] 113

def k0c0 : Code := { maxStack := 0, maxLocals := 1, code := object_method_1_code, exceptionTable := #[], attributes := #[] }
def k0m0 : Method := { name := "<init>", desc := "()V", sig := { parameters := [], returnType := none }, accessFlags := 1, code := some k0c0 }
/-- java/lang/Object -/
def k0 : Class := { plain "java/lang/Object" none with
  accessFlags := 33
  interfaces := #[]
  cf := some (fileOf pool0 8 #[] #[{ accessFlags := 1, nameIndex := 5, descriptorIndex := 6, attributes := #[] }] 33 0 #[] #[])
  fields := #[]
  methods := #[k0m0]
  instanceTypes := #[]
  staticTypes := #[]
  resolved := Array.replicate 124 none
  statics := none }

def pool1 : Array CpInfo := pool [(2, .class_ 4), (1, u "java/lang/Object"), (0, u "<init>"), (0, u "()V"), (0, .methodref 8 9), (0, .class_ 10), (0, .nameAndType 11 12), (0, u "com/example/tabent/tabent/query/TokenIsPinLaw"), (0, u "kindOf"), (0, u "(I)Lcom/example/tabent/tabent/query/Token$Kind;"), (0, .methodref 8 14), (0, .nameAndType 15 16), (0, u "draw"), (0, u "(I)C"), (0, .methodref 8 18), (0, .nameAndType 19 20), (0, u "up"), (0, u "(C)C"), (0, .methodref 8 22), (0, .nameAndType 23 24), (0, u "make"), (0, u "(ICCC)Ljava/lang/String;"), (0, .class_ 26), (0, u "com/example/tabent/tabent/query/Token"), (0, .methodref 25 28), (0, .nameAndType 5 29), (0, u "(Lcom/example/tabent/tabent/query/Token$Kind;Ljava/lang/String;Ljava/lang/Object;I)V"), (0, .fieldref 31 32), (0, .class_ 33), (0, .nameAndType 34 35), (0, u "com/example/tabent/tabent/query/Token$Kind"), (0, u "WORD"), (0, u "Lcom/example/tabent/tabent/query/Token$Kind;"), (0, .methodref 25 37), (0, .nameAndType 38 39), (0, u "is"), (0, u "(Ljava/lang/String;)Z"), (0, .integer 2147483647), (0, .fieldref 31 42), (0, .nameAndType 43 35), (0, u "STRING"), (0, .fieldref 31 45), (0, .nameAndType 46 35), (0, u "INTEGER"), (0, .fieldref 31 48), (0, .nameAndType 49 35), (0, u "LONG"), (0, .fieldref 31 51), (0, .nameAndType 52 35), (0, u "DECIMAL"), (0, .fieldref 31 54), (0, .nameAndType 55 35), (0, u "NAMED_PARAMETER"), (0, .fieldref 31 57), (0, .nameAndType 58 35), (0, u "POSITIONAL_PARAMETER"), (0, .fieldref 31 60), (0, .nameAndType 61 35), (0, u "SYMBOL"), (0, .fieldref 31 63), (0, .nameAndType 64 35), (0, u "END"), (0, .class_ 66), (0, u "java/lang/String"), (0, .methodref 65 68), (0, .nameAndType 5 69), (0, u "([C)V"), (2, u "law"), (0, u "(IIIII)Z")] 5

def k1m0 : Method := { name := "<init>", desc := "()V", sig := { parameters := [], returnType := none }, accessFlags := 1, code := none }
def k1c1 : Code := { maxStack := 6, maxLocals := 22, code := code, exceptionTable := #[], attributes := #[] }
def k1m1 : Method := { name := "law", desc := "(IIIII)Z", sig := { parameters := [.int, .int, .int, .int, .int], returnType := some .boolean }, accessFlags := 9, code := some k1c1 }
def k1c2 : Code := { maxStack := 2, maxLocals := 2, code := method_3_code, exceptionTable := #[], attributes := #[] }
def k1m2 : Method := { name := "kindOf", desc := "(I)Lcom/example/tabent/tabent/query/Token$Kind;", sig := { parameters := [.int], returnType := some (.object "com/example/tabent/tabent/query/Token$Kind") }, accessFlags := 10, code := some k1c2 }
def k1c3 : Code := { maxStack := 3, maxLocals := 3, code := method_4_code, exceptionTable := #[], attributes := #[] }
def k1m3 : Method := { name := "draw", desc := "(I)C", sig := { parameters := [.int], returnType := some .char }, accessFlags := 10, code := some k1c3 }
def k1c4 : Code := { maxStack := 2, maxLocals := 1, code := method_5_code, exceptionTable := #[], attributes := #[] }
def k1m4 : Method := { name := "up", desc := "(C)C", sig := { parameters := [.char], returnType := some .char }, accessFlags := 10, code := some k1c4 }
def k1c5 : Code := { maxStack := 6, maxLocals := 4, code := method_6_code, exceptionTable := #[], attributes := #[] }
def k1m5 : Method := { name := "make", desc := "(ICCC)Ljava/lang/String;", sig := { parameters := [.int, .char, .char, .char], returnType := some (.object "java/lang/String") }, accessFlags := 10, code := some k1c5 }
/-- com/example/tabent/tabent/query/TokenIsPinLaw -/
def k1 : Class := { plain "com/example/tabent/tabent/query/TokenIsPinLaw" (some 0) with
  accessFlags := 49
  interfaces := #[]
  cf := some (fileOf pool1 8 #[] #[{ accessFlags := 1, nameIndex := 5, descriptorIndex := 6, attributes := #[] }, { accessFlags := 9, nameIndex := 72, descriptorIndex := 73, attributes := #[] }, { accessFlags := 10, nameIndex := 11, descriptorIndex := 12, attributes := #[] }, { accessFlags := 10, nameIndex := 15, descriptorIndex := 16, attributes := #[] }, { accessFlags := 10, nameIndex := 19, descriptorIndex := 20, attributes := #[] }, { accessFlags := 10, nameIndex := 23, descriptorIndex := 24, attributes := #[] }] 49 2 #[] #[])
  fields := #[]
  methods := #[k1m0, k1m1, k1m2, k1m3, k1m4, k1m5]
  instanceTypes := #[]
  staticTypes := #[]
  resolved := Array.replicate 79 none
  statics := none }

def pool2 : Array CpInfo := pool [(1, .class_ 2), (0, u "java/lang/constant/Constable"), (0, .class_ 4), (0, u "java/lang/Object")] 6

/-- java/lang/constant/Constable -/
def k2 : Class := { plain "java/lang/constant/Constable" (some 0) with
  accessFlags := 1537
  interfaces := #[]
  cf := some (fileOf pool2 1 #[] #[] 1537 3 #[] #[])
  fields := #[]
  methods := #[]
  instanceTypes := #[]
  staticTypes := #[]
  resolved := Array.replicate 11 none
  statics := none }

def pool3 : Array CpInfo := pool [(1, .class_ 2), (0, u "java/lang/Comparable"), (0, .class_ 4), (0, u "java/lang/Object")] 7

/-- java/lang/Comparable -/
def k3 : Class := { plain "java/lang/Comparable" (some 0) with
  accessFlags := 1537
  interfaces := #[]
  cf := some (fileOf pool3 1 #[] #[] 1537 3 #[] #[])
  fields := #[]
  methods := #[]
  instanceTypes := #[]
  staticTypes := #[]
  resolved := Array.replicate 12 none
  statics := none }

def pool4 : Array CpInfo := pool [(1, .class_ 2), (0, u "java/io/Serializable"), (0, .class_ 4), (0, u "java/lang/Object")] 2

/-- java/io/Serializable -/
def k4 : Class := { plain "java/io/Serializable" (some 0) with
  accessFlags := 1537
  interfaces := #[]
  cf := some (fileOf pool4 1 #[] #[] 1537 3 #[] #[])
  fields := #[]
  methods := #[]
  instanceTypes := #[]
  staticTypes := #[]
  resolved := Array.replicate 7 none
  statics := none }

def pool5 : Array CpInfo := pool [(2, .class_ 4), (1, u "java/lang/Enum"), (0, u "name"), (0, u "Ljava/lang/String;"), (2, u "ordinal"), (0, u "I"), (1, .class_ 14), (1, u "java/lang/Object"), (4, u "hash"), (86, .class_ 108), (1, u "java/lang/Enum$EnumDesc"), (2, .class_ 112), (0, u "java/lang/constant/Constable"), (0, .class_ 114), (0, u "java/lang/Comparable"), (0, .class_ 116), (0, u "java/io/Serializable")] 87

/-- java/lang/Enum -/
def k5 : Class := { plain "java/lang/Enum" (some 0) with
  accessFlags := 1057
  interfaces := #[2, 3, 4]
  cf := some (fileOf pool5 2 #[.nestMembers #[106]] #[] 1057 12 #[111, 113, 115] #[{ accessFlags := 18, nameIndex := 5, descriptorIndex := 6, attributes := #[] }, { accessFlags := 18, nameIndex := 9, descriptorIndex := 10, attributes := #[] }, { accessFlags := 2, nameIndex := 19, descriptorIndex := 10, attributes := #[] }])
  fields := #[{ name := "name", type := (.object "java/lang/String"), accessFlags := 18, slot := 0, constantValue := 0 }, { name := "ordinal", type := .int, accessFlags := 18, slot := 1, constantValue := 0 }, { name := "hash", type := .int, accessFlags := 2, slot := 2, constantValue := 0 }]
  methods := #[]
  instanceTypes := #[(.object "java/lang/String"), .int, .int]
  staticTypes := #[]
  resolved := Array.replicate 204 none
  statics := none }

def pool6 : Array CpInfo := pool [(1, .class_ 2), (0, u "com/example/tabent/tabent/query/Token$Kind"), (2, u "WORD"), (0, u "Lcom/example/tabent/tabent/query/Token$Kind;"), (2, u "STRING"), (2, u "INTEGER"), (2, u "LONG"), (2, u "DECIMAL"), (2, u "NAMED_PARAMETER"), (2, u "POSITIONAL_PARAMETER"), (2, u "SYMBOL"), (2, u "END"), (2, u "$VALUES"), (0, u "[Lcom/example/tabent/tabent/query/Token$Kind;"), (6, .class_ 43), (1, u "java/lang/Enum"), (32, .class_ 77), (0, u "com/example/tabent/tabent/query/Token")] 2

/-- com/example/tabent/tabent/query/Token$Kind -/
def k6 : Class := { plain "com/example/tabent/tabent/query/Token$Kind" (some 5) with
  accessFlags := 16432
  interfaces := #[]
  cf := some (fileOf pool6 1 #[.nestHost 76] #[] 16432 41 #[] #[{ accessFlags := 16409, nameIndex := 5, descriptorIndex := 6, attributes := #[] }, { accessFlags := 16409, nameIndex := 9, descriptorIndex := 6, attributes := #[] }, { accessFlags := 16409, nameIndex := 12, descriptorIndex := 6, attributes := #[] }, { accessFlags := 16409, nameIndex := 15, descriptorIndex := 6, attributes := #[] }, { accessFlags := 16409, nameIndex := 18, descriptorIndex := 6, attributes := #[] }, { accessFlags := 16409, nameIndex := 21, descriptorIndex := 6, attributes := #[] }, { accessFlags := 16409, nameIndex := 24, descriptorIndex := 6, attributes := #[] }, { accessFlags := 16409, nameIndex := 27, descriptorIndex := 6, attributes := #[] }, { accessFlags := 16409, nameIndex := 30, descriptorIndex := 6, attributes := #[] }, { accessFlags := 4122, nameIndex := 33, descriptorIndex := 34, attributes := #[] }])
  fields := #[{ name := "WORD", type := (.object "com/example/tabent/tabent/query/Token$Kind"), accessFlags := 16409, slot := 0, constantValue := 0 }, { name := "STRING", type := (.object "com/example/tabent/tabent/query/Token$Kind"), accessFlags := 16409, slot := 1, constantValue := 0 }, { name := "INTEGER", type := (.object "com/example/tabent/tabent/query/Token$Kind"), accessFlags := 16409, slot := 2, constantValue := 0 }, { name := "LONG", type := (.object "com/example/tabent/tabent/query/Token$Kind"), accessFlags := 16409, slot := 3, constantValue := 0 }, { name := "DECIMAL", type := (.object "com/example/tabent/tabent/query/Token$Kind"), accessFlags := 16409, slot := 4, constantValue := 0 }, { name := "NAMED_PARAMETER", type := (.object "com/example/tabent/tabent/query/Token$Kind"), accessFlags := 16409, slot := 5, constantValue := 0 }, { name := "POSITIONAL_PARAMETER", type := (.object "com/example/tabent/tabent/query/Token$Kind"), accessFlags := 16409, slot := 6, constantValue := 0 }, { name := "SYMBOL", type := (.object "com/example/tabent/tabent/query/Token$Kind"), accessFlags := 16409, slot := 7, constantValue := 0 }, { name := "END", type := (.object "com/example/tabent/tabent/query/Token$Kind"), accessFlags := 16409, slot := 8, constantValue := 0 }, { name := "$VALUES", type := (.array (.object "com/example/tabent/tabent/query/Token$Kind")), accessFlags := 4122, slot := 9, constantValue := 0 }]
  methods := #[]
  instanceTypes := #[(.object "java/lang/String"), .int, .int]
  staticTypes := #[(.object "com/example/tabent/tabent/query/Token$Kind"), (.object "com/example/tabent/tabent/query/Token$Kind"), (.object "com/example/tabent/tabent/query/Token$Kind"), (.object "com/example/tabent/tabent/query/Token$Kind"), (.object "com/example/tabent/tabent/query/Token$Kind"), (.object "com/example/tabent/tabent/query/Token$Kind"), (.object "com/example/tabent/tabent/query/Token$Kind"), (.object "com/example/tabent/tabent/query/Token$Kind"), (.object "com/example/tabent/tabent/query/Token$Kind"), (.array (.object "com/example/tabent/tabent/query/Token$Kind"))]
  resolved := Array.replicate 80 none
  statics := some 0 }

def pool7 : Array CpInfo := pool [(2, .class_ 4), (1, u "java/lang/CharSequence"), (42, .class_ 48), (0, u "java/lang/CharSequence$1CodePointIterator"), (10, .class_ 60), (0, u "java/lang/CharSequence$1CharIterator"), (5, .class_ 67), (0, u "java/lang/Object")] 63

/-- java/lang/CharSequence -/
def k7 : Class := { plain "java/lang/CharSequence" (some 0) with
  accessFlags := 1537
  interfaces := #[]
  cf := some (fileOf pool7 2 #[.nestMembers #[47, 59]] #[] 1537 66 #[] #[])
  fields := #[]
  methods := #[]
  instanceTypes := #[]
  staticTypes := #[]
  resolved := Array.replicate 131 none
  statics := none }

def pool8 : Array CpInfo := pool [(1, .class_ 2), (0, u "java/lang/constant/ConstantDesc"), (0, .class_ 4), (0, u "java/lang/Object")] 32

/-- java/lang/constant/ConstantDesc -/
def k8 : Class := { plain "java/lang/constant/ConstantDesc" (some 0) with
  accessFlags := 1537
  interfaces := #[]
  cf := some (fileOf pool8 1 #[] #[] 1537 3 #[] #[])
  fields := #[]
  methods := #[]
  instanceTypes := #[]
  staticTypes := #[]
  resolved := Array.replicate 37 none
  statics := none }

def pool9 : Array CpInfo := pool [(1, .methodref 2 3), (0, .class_ 4), (0, .nameAndType 5 6), (0, u "java/lang/Object"), (0, u "<init>"), (0, u "()V"), (0, .string 8), (0, u ""), (0, .fieldref 10 11), (0, .class_ 12), (0, .nameAndType 13 14), (0, u "java/lang/String"), (0, u "value"), (0, u "[B"), (0, .fieldref 10 16), (0, .nameAndType 17 18), (0, u "coder"), (0, u "B"), (2, u "hash"), (0, u "I"), (2, u "hashIsZero"), (0, u "Z"), (0, .methodref 10 28), (0, .nameAndType 5 29), (0, u "([CIILjava/lang/Void;)V"), (6, u "checkBoundsOffCount"), (0, u "(III)I"), (0, .fieldref 10 39), (0, .nameAndType 40 26), (0, u "COMPACT_STRINGS"), (1, .class_ 44), (1, u "java/lang/StringUTF16"), (0, u "compress"), (1, .methodref 42 48), (0, .nameAndType 49 50), (0, u "coderFromArrayLen"), (0, u "([BI)B"), (56, .class_ 109), (1, u "java/lang/StringLatin1"), (32, u "()Z"), (34, .methodref 42 178), (0, .nameAndType 45 179), (0, u "([CII)[B"), (119, .methodref 107 300), (0, .nameAndType 301 302), (0, u "toChars"), (0, u "([B)[C"), (0, .methodref 42 300), (188, .methodref 10 493), (0, .nameAndType 494 142), (0, u "isLatin1"), (46, .methodref 107 542), (0, .nameAndType 543 544), (0, u "equals"), (0, u "([B[B)Z"), (28, u "(Ljava/lang/Object;)Z"), (1, .class_ 576), (0, u "java/lang/CharSequence"), (22, u "CASE_INSENSITIVE_ORDER"), (0, u "Ljava/util/Comparator;"), (354, u "toCharArray"), (0, u "()[C"), (53, u "([C)V"), (42, .fieldref 1054 1055), (0, .class_ 1056), (0, .nameAndType 1057 1058), (0, u "jdk/internal/util/Preconditions"), (0, u "SIOOBE_FORMATTER"), (0, u "Ljava/util/function/BiFunction;"), (5, u "(IIILjava/util/function/BiFunction;)I"), (0, .methodref 1054 1066), (0, .nameAndType 1067 1064), (0, u "checkFromIndexSize"), (33, u "serialPersistentFields"), (0, u "[Ljava/io/ObjectStreamField;"), (0, .class_ 1104), (0, u "java/lang/String$CaseInsensitiveComparator"), (1, .class_ 1107), (0, u "java/io/Serializable"), (0, .class_ 1109), (0, u "java/lang/Comparable"), (0, .class_ 1111), (0, u "java/lang/constant/Constable"), (0, .class_ 1113), (0, u "java/lang/constant/ConstantDesc"), (2, u "serialVersionUID"), (0, u "J"), (3, u "REPL"), (0, u "C"), (2, u "LATIN1"), (1, u "UTF16")] 323

def k9m0 : Method := { name := "<init>", desc := "()V", sig := { parameters := [], returnType := none }, accessFlags := 1, code := none }
def k9c1 : Code := { maxStack := 5, maxLocals := 2, code := jdk_42_method_3_code, exceptionTable := #[], attributes := #[] }
def k9m1 : Method := { name := "<init>", desc := "([C)V", sig := { parameters := [(.array .char)], returnType := none }, accessFlags := 1, code := some k9c1 }
def k9c2 : Code := { maxStack := 2, maxLocals := 3, code := jdk_42_method_66_code, exceptionTable := #[], attributes := #[] }
def k9m2 : Method := { name := "equals", desc := "(Ljava/lang/Object;)Z", sig := { parameters := [(.object "java/lang/Object")], returnType := some .boolean }, accessFlags := 1, code := some k9c2 }
def k9c3 : Code := { maxStack := 1, maxLocals := 1, code := jdk_42_method_129_code, exceptionTable := #[], attributes := #[] }
def k9m3 : Method := { name := "toCharArray", desc := "()[C", sig := { parameters := [], returnType := some (.array .char) }, accessFlags := 1, code := some k9c3 }
def k9c4 : Code := { maxStack := 4, maxLocals := 6, code := jdk_42_method_149_code, exceptionTable := #[], attributes := #[] }
def k9m4 : Method := { name := "<init>", desc := "([CIILjava/lang/Void;)V", sig := { parameters := [(.array .char), .int, .int, (.object "java/lang/Void")], returnType := none }, accessFlags := 2, code := some k9c4 }
def k9c5 : Code := { maxStack := 1, maxLocals := 1, code := jdk_42_method_154_code, exceptionTable := #[], attributes := #[] }
def k9m5 : Method := { name := "isLatin1", desc := "()Z", sig := { parameters := [], returnType := some .boolean }, accessFlags := 0, code := some k9c5 }
def k9c6 : Code := { maxStack := 4, maxLocals := 3, code := jdk_42_method_157_code, exceptionTable := #[], attributes := #[] }
def k9m6 : Method := { name := "checkBoundsOffCount", desc := "(III)I", sig := { parameters := [.int, .int, .int], returnType := some .int }, accessFlags := 8, code := some k9c6 }
/-- java/lang/String -/
def k9 : Class := { plain "java/lang/String" (some 0) with
  accessFlags := 49
  interfaces := #[4, 3, 7, 2, 8]
  cf := some (fileOf pool9 10 #[.nestMembers #[1103]] #[{ accessFlags := 1, nameIndex := 5, descriptorIndex := 6, attributes := #[] }, { accessFlags := 1, nameIndex := 5, descriptorIndex := 1010, attributes := #[] }, { accessFlags := 1, nameIndex := 543, descriptorIndex := 573, attributes := #[] }, { accessFlags := 1, nameIndex := 955, descriptorIndex := 956, attributes := #[] }, { accessFlags := 2, nameIndex := 5, descriptorIndex := 29, attributes := #[] }, { accessFlags := 0, nameIndex := 494, descriptorIndex := 142, attributes := #[] }, { accessFlags := 8, nameIndex := 36, descriptorIndex := 37, attributes := #[] }] 49 2 #[1106, 1108, 575, 1110, 1112] #[{ accessFlags := 18, nameIndex := 13, descriptorIndex := 14, attributes := #[] }, { accessFlags := 18, nameIndex := 17, descriptorIndex := 18, attributes := #[] }, { accessFlags := 2, nameIndex := 21, descriptorIndex := 22, attributes := #[] }, { accessFlags := 2, nameIndex := 25, descriptorIndex := 26, attributes := #[] }, { accessFlags := 26, nameIndex := 1116, descriptorIndex := 1117, attributes := #[] }, { accessFlags := 24, nameIndex := 40, descriptorIndex := 26, attributes := #[] }, { accessFlags := 26, nameIndex := 1101, descriptorIndex := 1102, attributes := #[] }, { accessFlags := 26, nameIndex := 1121, descriptorIndex := 1122, attributes := #[] }, { accessFlags := 25, nameIndex := 599, descriptorIndex := 600, attributes := #[] }, { accessFlags := 24, nameIndex := 1125, descriptorIndex := 18, attributes := #[] }, { accessFlags := 24, nameIndex := 1127, descriptorIndex := 18, attributes := #[] }])
  fields := #[{ name := "value", type := (.array .byte), accessFlags := 18, slot := 0, constantValue := 0 }, { name := "coder", type := .byte, accessFlags := 18, slot := 1, constantValue := 0 }, { name := "hash", type := .int, accessFlags := 2, slot := 2, constantValue := 0 }, { name := "hashIsZero", type := .boolean, accessFlags := 2, slot := 3, constantValue := 0 }, { name := "serialVersionUID", type := .long, accessFlags := 26, slot := 0, constantValue := 0 }, { name := "COMPACT_STRINGS", type := .boolean, accessFlags := 24, slot := 1, constantValue := 0 }, { name := "serialPersistentFields", type := (.array (.object "java/io/ObjectStreamField")), accessFlags := 26, slot := 2, constantValue := 0 }, { name := "REPL", type := .char, accessFlags := 26, slot := 3, constantValue := 0 }, { name := "CASE_INSENSITIVE_ORDER", type := (.object "java/util/Comparator"), accessFlags := 25, slot := 4, constantValue := 0 }, { name := "LATIN1", type := .byte, accessFlags := 24, slot := 5, constantValue := 0 }, { name := "UTF16", type := .byte, accessFlags := 24, slot := 6, constantValue := 0 }]
  methods := #[k9m0, k9m1, k9m2, k9m3, k9m4, k9m5, k9m6]
  instanceTypes := #[(.array .byte), .byte, .int, .boolean]
  staticTypes := #[.long, .boolean, (.array (.object "java/io/ObjectStreamField")), .char, (.object "java/util/Comparator"), .byte, .byte]
  resolved := Array.replicate 1451 none
  statics := some 1 }

def pool10 : Array CpInfo := pool [(3, .class_ 4), (0, u "java/lang/String"), (1, .class_ 8), (1, u "java/lang/Object"), (0, u "<init>"), (0, u "()V"), (0, .methodref 12 13), (0, .class_ 14), (0, .nameAndType 15 16), (0, u "java/lang/StringUTF16"), (0, u "newBytesLength"), (0, u "(I)I"), (3, .integer 1073741823), (23, .fieldref 12 45), (0, .nameAndType 46 47), (0, u "$assertionsDisabled"), (0, u "Z"), (0, .methodref 12 49), (0, .nameAndType 50 51), (0, u "length"), (0, u "([B)I"), (7, .fieldref 12 60), (0, .nameAndType 61 62), (0, u "HI_BYTE_SHIFT"), (0, u "I"), (0, .fieldref 12 64), (0, .nameAndType 65 62), (0, u "LO_BYTE_SHIFT"), (5, .methodref 12 72), (0, .nameAndType 73 74), (0, u "getChar"), (0, u "([BI)C"), (24, u "(II[B)V"), (3, .methodref 12 104), (0, .nameAndType 105 106), (0, u "getChars"), (0, u "([BII[CI)V"), (0, .methodref 12 108), (0, .nameAndType 109 110), (0, u "newBytesFor"), (0, u "(I)[B"), (0, .methodref 12 112), (0, .nameAndType 113 114), (0, u "putChar"), (0, u "([BII)V"), (0, .methodref 12 116), (0, .nameAndType 117 118), (0, u "compress"), (0, u "([CI[BII)I"), (0, .methodref 12 120), (0, .nameAndType 121 122), (0, u "toBytes"), (0, u "([CII)[B"), (50, .methodref 12 174), (0, .nameAndType 175 99), (0, u "checkBoundsOffCount"), (85, u "coderFromArrayLen"), (0, u "([BI)B"), (18, u "(III)I"), (60, u "toChars"), (26, .class_ 371), (1, u "java/lang/StringUTF16$LinesSpliterator"), (47, .methodref 3 420), (0, .nameAndType 175 281), (9, u "MAX_LENGTH"), (23, u "([B)[C"), (172, .class_ 628), (0, u "java/lang/StringUTF16$CodePointsSpliterator"), (0, .class_ 630), (0, u "java/lang/StringUTF16$CharsSpliterator")] 4

def k10m0 : Method := { name := "<init>", desc := "()V", sig := { parameters := [], returnType := none }, accessFlags := 0, code := none }
def k10c1 : Code := { maxStack := 1, maxLocals := 1, code := jdk_52_method_2_code, exceptionTable := #[], attributes := #[] }
def k10m1 : Method := { name := "newBytesFor", desc := "(I)[B", sig := { parameters := [.int], returnType := some (.array .byte) }, accessFlags := 9, code := some k10c1 }
def k10c2 : Code := { maxStack := 4, maxLocals := 1, code := jdk_52_method_3_code, exceptionTable := #[], attributes := #[] }
def k10m2 : Method := { name := "newBytesLength", desc := "(I)I", sig := { parameters := [.int], returnType := some .int }, accessFlags := 9, code := some k10c2 }
def k10c3 : Code := { maxStack := 4, maxLocals := 3, code := jdk_52_method_4_code, exceptionTable := #[], attributes := #[] }
def k10m3 : Method := { name := "putChar", desc := "([BII)V", sig := { parameters := [(.array .byte), .int, .int], returnType := none }, accessFlags := 8, code := some k10c3 }
def k10c4 : Code := { maxStack := 3, maxLocals := 2, code := jdk_52_method_5_code, exceptionTable := #[], attributes := #[] }
def k10m4 : Method := { name := "getChar", desc := "([BI)C", sig := { parameters := [(.array .byte), .int], returnType := some .char }, accessFlags := 8, code := some k10c4 }
def k10c5 : Code := { maxStack := 2, maxLocals := 1, code := jdk_52_method_6_code, exceptionTable := #[], attributes := #[] }
def k10m5 : Method := { name := "length", desc := "([B)I", sig := { parameters := [(.array .byte)], returnType := some .int }, accessFlags := 9, code := some k10c5 }
def k10c6 : Code := { maxStack := 5, maxLocals := 2, code := jdk_52_method_13_code, exceptionTable := #[], attributes := #[] }
def k10m6 : Method := { name := "toChars", desc := "([B)[C", sig := { parameters := [(.array .byte)], returnType := some (.array .char) }, accessFlags := 9, code := some k10c6 }
def k10c7 : Code := { maxStack := 4, maxLocals := 5, code := jdk_52_method_14_code, exceptionTable := #[], attributes := #[] }
def k10m7 : Method := { name := "toBytes", desc := "([CII)[B", sig := { parameters := [(.array .char), .int, .int], returnType := some (.array .byte) }, accessFlags := 9, code := some k10c7 }
def k10c8 : Code := { maxStack := 2, maxLocals := 2, code := jdk_52_method_15_code, exceptionTable := #[], attributes := #[] }
def k10m8 : Method := { name := "coderFromArrayLen", desc := "([BI)B", sig := { parameters := [(.array .byte), .int], returnType := some .byte }, accessFlags := 8, code := some k10c8 }
def k10c9 : Code := { maxStack := 5, maxLocals := 6, code := jdk_52_method_16_code, exceptionTable := #[], attributes := #[] }
def k10m9 : Method := { name := "compress", desc := "([CII)[B", sig := { parameters := [(.array .char), .int, .int], returnType := some (.array .byte) }, accessFlags := 9, code := some k10c9 }
def k10c10 : Code := { maxStack := 3, maxLocals := 7, code := jdk_52_method_21_code, exceptionTable := #[], attributes := #[] }
def k10m10 : Method := { name := "compress", desc := "([CI[BII)I", sig := { parameters := [(.array .char), .int, (.array .byte), .int, .int], returnType := some .int }, accessFlags := 9, code := some k10c10 }
def k10c11 : Code := { maxStack := 4, maxLocals := 6, code := jdk_52_method_26_code, exceptionTable := #[], attributes := #[] }
def k10m11 : Method := { name := "getChars", desc := "([BII[CI)V", sig := { parameters := [(.array .byte), .int, .int, (.array .char), .int], returnType := none }, accessFlags := 9, code := some k10c11 }
def k10c12 : Code := { maxStack := 3, maxLocals := 3, code := jdk_52_method_94_code, exceptionTable := #[], attributes := #[] }
def k10m12 : Method := { name := "checkBoundsOffCount", desc := "(II[B)V", sig := { parameters := [.int, .int, (.array .byte)], returnType := none }, accessFlags := 9, code := some k10c12 }
/-- java/lang/StringUTF16 -/
def k10 : Class := { plain "java/lang/StringUTF16" (some 0) with
  accessFlags := 48
  interfaces := #[]
  cf := some (fileOf pool10 12 #[.nestMembers #[627, 629, 369]] #[{ accessFlags := 0, nameIndex := 9, descriptorIndex := 10, attributes := #[] }, { accessFlags := 9, nameIndex := 109, descriptorIndex := 110, attributes := #[] }, { accessFlags := 9, nameIndex := 15, descriptorIndex := 16, attributes := #[] }, { accessFlags := 8, nameIndex := 113, descriptorIndex := 114, attributes := #[] }, { accessFlags := 8, nameIndex := 73, descriptorIndex := 74, attributes := #[] }, { accessFlags := 9, nameIndex := 50, descriptorIndex := 51, attributes := #[] }, { accessFlags := 9, nameIndex := 342, descriptorIndex := 454, attributes := #[] }, { accessFlags := 9, nameIndex := 121, descriptorIndex := 122, attributes := #[] }, { accessFlags := 8, nameIndex := 261, descriptorIndex := 262, attributes := #[] }, { accessFlags := 9, nameIndex := 117, descriptorIndex := 122, attributes := #[] }, { accessFlags := 9, nameIndex := 117, descriptorIndex := 118, attributes := #[] }, { accessFlags := 9, nameIndex := 105, descriptorIndex := 106, attributes := #[] }, { accessFlags := 9, nameIndex := 175, descriptorIndex := 99, attributes := #[] }] 48 6 #[] #[{ accessFlags := 26, nameIndex := 61, descriptorIndex := 62, attributes := #[] }, { accessFlags := 26, nameIndex := 65, descriptorIndex := 62, attributes := #[] }, { accessFlags := 24, nameIndex := 430, descriptorIndex := 62, attributes := #[] }, { accessFlags := 4120, nameIndex := 46, descriptorIndex := 47, attributes := #[] }])
  fields := #[{ name := "HI_BYTE_SHIFT", type := .int, accessFlags := 26, slot := 0, constantValue := 0 }, { name := "LO_BYTE_SHIFT", type := .int, accessFlags := 26, slot := 1, constantValue := 0 }, { name := "MAX_LENGTH", type := .int, accessFlags := 24, slot := 2, constantValue := 0 }, { name := "$assertionsDisabled", type := .boolean, accessFlags := 4120, slot := 3, constantValue := 0 }]
  methods := #[k10m0, k10m1, k10m2, k10m3, k10m4, k10m5, k10m6, k10m7, k10m8, k10m9, k10m10, k10m11, k10m12]
  instanceTypes := #[]
  staticTypes := #[.int, .int, .int, .boolean]
  resolved := Array.replicate 635 none
  statics := some 2 }

def pool11 : Array CpInfo := pool [(1, .methodref 2 3), (0, .class_ 4), (0, .nameAndType 5 6), (0, u "java/lang/Object"), (0, u "<init>"), (0, u "()V"), (0, .fieldref 8 9), (0, .class_ 10), (0, .nameAndType 11 12), (0, u "com/example/tabent/tabent/query/Token"), (0, u "kind"), (0, u "Lcom/example/tabent/tabent/query/Token$Kind;"), (0, .fieldref 8 14), (0, .nameAndType 15 16), (0, u "text"), (0, u "Ljava/lang/String;"), (0, .fieldref 18 19), (0, .class_ 20), (0, .nameAndType 21 12), (0, u "com/example/tabent/tabent/query/Token$Kind"), (0, u "WORD"), (0, .methodref 8 23), (0, .nameAndType 24 25), (0, u "asciiUpperCase"), (0, u "(Ljava/lang/String;)Ljava/lang/String;"), (0, .fieldref 8 27), (0, .nameAndType 28 16), (0, u "keyword"), (0, .fieldref 8 30), (0, .nameAndType 31 32), (0, u "value"), (0, u "Ljava/lang/Object;"), (0, .fieldref 8 34), (0, .nameAndType 35 36), (0, u "position"), (0, u "I"), (0, .methodref 38 39), (0, .class_ 40), (0, .nameAndType 41 42), (0, u "java/lang/String"), (0, u "equals"), (0, u "(Ljava/lang/Object;)Z"), (12, .methodref 38 56), (0, .nameAndType 57 58), (0, u "toCharArray"), (0, u "()[C"), (0, .methodref 38 60), (0, .nameAndType 5 61), (0, u "([C)V"), (0, u "(Lcom/example/tabent/tabent/query/Token$Kind;Ljava/lang/String;Ljava/lang/Object;I)V"), (7, u "is"), (0, u "(Ljava/lang/String;)Z")] 23

def k11c0 : Code := { maxStack := 3, maxLocals := 5, code := prog_8_method_1_code, exceptionTable := #[], attributes := #[] }
def k11m0 : Method := { name := "<init>", desc := "(Lcom/example/tabent/tabent/query/Token$Kind;Ljava/lang/String;Ljava/lang/Object;I)V", sig := { parameters := [(.object "com/example/tabent/tabent/query/Token$Kind"), (.object "java/lang/String"), (.object "java/lang/Object"), .int], returnType := none }, accessFlags := 0, code := some k11c0 }
def k11c1 : Code := { maxStack := 2, maxLocals := 2, code := prog_8_method_6_code, exceptionTable := #[], attributes := #[] }
def k11m1 : Method := { name := "is", desc := "(Ljava/lang/String;)Z", sig := { parameters := [(.object "java/lang/String")], returnType := some .boolean }, accessFlags := 0, code := some k11c1 }
def k11c2 : Code := { maxStack := 4, maxLocals := 3, code := prog_8_method_10_code, exceptionTable := #[], attributes := #[] }
def k11m2 : Method := { name := "asciiUpperCase", desc := "(Ljava/lang/String;)Ljava/lang/String;", sig := { parameters := [(.object "java/lang/String")], returnType := some (.object "java/lang/String") }, accessFlags := 10, code := some k11c2 }
/-- com/example/tabent/tabent/query/Token -/
def k11 : Class := { plain "com/example/tabent/tabent/query/Token" (some 0) with
  accessFlags := 48
  interfaces := #[]
  cf := some (fileOf pool11 8 #[.nestMembers #[18]] #[{ accessFlags := 0, nameIndex := 5, descriptorIndex := 62, attributes := #[] }, { accessFlags := 0, nameIndex := 70, descriptorIndex := 71, attributes := #[] }, { accessFlags := 10, nameIndex := 24, descriptorIndex := 25, attributes := #[] }] 48 2 #[] #[{ accessFlags := 18, nameIndex := 11, descriptorIndex := 12, attributes := #[] }, { accessFlags := 18, nameIndex := 15, descriptorIndex := 16, attributes := #[] }, { accessFlags := 18, nameIndex := 28, descriptorIndex := 16, attributes := #[] }, { accessFlags := 18, nameIndex := 31, descriptorIndex := 32, attributes := #[] }, { accessFlags := 18, nameIndex := 35, descriptorIndex := 36, attributes := #[] }])
  fields := #[{ name := "kind", type := (.object "com/example/tabent/tabent/query/Token$Kind"), accessFlags := 18, slot := 0, constantValue := 0 }, { name := "text", type := (.object "java/lang/String"), accessFlags := 18, slot := 1, constantValue := 0 }, { name := "keyword", type := (.object "java/lang/String"), accessFlags := 18, slot := 2, constantValue := 0 }, { name := "value", type := (.object "java/lang/Object"), accessFlags := 18, slot := 3, constantValue := 0 }, { name := "position", type := .int, accessFlags := 18, slot := 4, constantValue := 0 }]
  methods := #[k11m0, k11m1, k11m2]
  instanceTypes := #[(.object "com/example/tabent/tabent/query/Token$Kind"), (.object "java/lang/String"), (.object "java/lang/String"), (.object "java/lang/Object"), .int]
  staticTypes := #[]
  resolved := Array.replicate 95 none
  statics := none }

def pool12 : Array CpInfo := pool [(2, .class_ 4), (1, u "java/lang/Object"), (0, u "<init>"), (0, u "()V"), (17, .class_ 26), (1, u "jdk/internal/util/Preconditions"), (22, u "checkFromIndexSize"), (5, .class_ 56), (0, u "jdk/internal/util/Preconditions$4"), (57, .class_ 115), (0, u "jdk/internal/util/Preconditions$1"), (7, u "SIOOBE_FORMATTER"), (0, u "Ljava/util/function/BiFunction;"), (0, .class_ 126), (0, u "jdk/internal/util/Preconditions$2"), (3, u "AIOOBE_FORMATTER"), (0, .class_ 132), (0, u "jdk/internal/util/Preconditions$3"), (3, u "IOOBE_FORMATTER"), (46, u "(IIILjava/util/function/BiFunction;)I")] 10

def k12m0 : Method := { name := "<init>", desc := "()V", sig := { parameters := [], returnType := none }, accessFlags := 1, code := none }
def k12c1 : Code := { maxStack := 4, maxLocals := 4, code := jdk_41_method_13_code, exceptionTable := #[], attributes := #[] }
def k12m1 : Method := { name := "checkFromIndexSize", desc := "(IIILjava/util/function/BiFunction;)I", sig := { parameters := [.int, .int, .int, (.object "java/util/function/BiFunction")], returnType := some .int }, accessFlags := 9, code := some k12c1 }
/-- jdk/internal/util/Preconditions -/
def k12 : Class := { plain "jdk/internal/util/Preconditions" (some 0) with
  accessFlags := 33
  interfaces := #[]
  cf := some (fileOf pool12 24 #[.nestMembers #[55, 131, 125, 114]] #[{ accessFlags := 1, nameIndex := 5, descriptorIndex := 6, attributes := #[] }, { accessFlags := 9, nameIndex := 49, descriptorIndex := 183, attributes := #[] }] 33 2 #[] #[{ accessFlags := 25, nameIndex := 123, descriptorIndex := 124, attributes := #[] }, { accessFlags := 25, nameIndex := 130, descriptorIndex := 124, attributes := #[] }, { accessFlags := 25, nameIndex := 136, descriptorIndex := 124, attributes := #[] }])
  fields := #[{ name := "SIOOBE_FORMATTER", type := (.object "java/util/function/BiFunction"), accessFlags := 25, slot := 0, constantValue := 0 }, { name := "AIOOBE_FORMATTER", type := (.object "java/util/function/BiFunction"), accessFlags := 25, slot := 1, constantValue := 0 }, { name := "IOOBE_FORMATTER", type := (.object "java/util/function/BiFunction"), accessFlags := 25, slot := 2, constantValue := 0 }]
  methods := #[k12m0, k12m1]
  instanceTypes := #[]
  staticTypes := #[(.object "java/util/function/BiFunction"), (.object "java/util/function/BiFunction"), (.object "java/util/function/BiFunction")]
  resolved := Array.replicate 194 none
  statics := some 3 }

def pool13 : Array CpInfo := pool [(4, .class_ 6), (1, u "java/lang/Object"), (0, u "<init>"), (0, u "()V"), (4, .methodref 14 15), (0, .class_ 16), (0, .nameAndType 17 18), (0, u "java/lang/StringLatin1"), (0, u "inflate"), (0, u "([BI[CII)V"), (102, u "$assertionsDisabled"), (0, u "Z"), (69, u "toChars"), (28, .class_ 223), (1, u "java/lang/StringLatin1$LinesSpliterator"), (44, u "([B)[C"), (12, u "equals"), (0, u "([B[B)Z"), (107, .class_ 391), (0, u "java/lang/StringLatin1$CharsSpliterator")] 3

def k13m0 : Method := { name := "<init>", desc := "()V", sig := { parameters := [], returnType := none }, accessFlags := 0, code := none }
def k13c1 : Code := { maxStack := 5, maxLocals := 2, code := jdk_43_method_9_code, exceptionTable := #[], attributes := #[] }
def k13m1 : Method := { name := "toChars", desc := "([B)[C", sig := { parameters := [(.array .byte)], returnType := some (.array .char) }, accessFlags := 9, code := some k13c1 }
def k13c2 : Code := { maxStack := 3, maxLocals := 3, code := jdk_43_method_13_code, exceptionTable := #[], attributes := #[] }
def k13m2 : Method := { name := "equals", desc := "([B[B)Z", sig := { parameters := [(.array .byte), (.array .byte)], returnType := some .boolean }, accessFlags := 9, code := some k13c2 }
def k13c3 : Code := { maxStack := 4, maxLocals := 6, code := jdk_43_method_49_code, exceptionTable := #[], attributes := #[] }
def k13m3 : Method := { name := "inflate", desc := "([BI[CII)V", sig := { parameters := [(.array .byte), .int, (.array .char), .int, .int], returnType := none }, accessFlags := 9, code := some k13c3 }
/-- java/lang/StringLatin1 -/
def k13 : Class := { plain "java/lang/StringLatin1" (some 0) with
  accessFlags := 48
  interfaces := #[]
  cf := some (fileOf pool13 14 #[.nestMembers #[390, 221]] #[{ accessFlags := 0, nameIndex := 7, descriptorIndex := 8, attributes := #[] }, { accessFlags := 9, nameIndex := 192, descriptorIndex := 268, attributes := #[] }, { accessFlags := 9, nameIndex := 281, descriptorIndex := 282, attributes := #[] }, { accessFlags := 9, nameIndex := 17, descriptorIndex := 18, attributes := #[] }] 48 4 #[] #[{ accessFlags := 4120, nameIndex := 121, descriptorIndex := 122, attributes := #[] }])
  fields := #[{ name := "$assertionsDisabled", type := .boolean, accessFlags := 4120, slot := 0, constantValue := 0 }]
  methods := #[k13m0, k13m1, k13m2, k13m3]
  instanceTypes := #[]
  staticTypes := #[.boolean]
  resolved := Array.replicate 395 none
  statics := none }

def pool14 : Array CpInfo := pool [(9, u "<init>"), (6, .class_ 18), (1, u "java/lang/Object"), (0, u "()V"), (1, .class_ 23), (1, u "jdk/internal/util/ArraysSupport"), (0, u "LOG2_ARRAY_LONG_INDEX_SCALE"), (0, u "I"), (2, u "U"), (0, u "Ljdk/internal/misc/Unsafe;"), (8, u "BIG_ENDIAN"), (0, u "Z"), (8, u "LOG2_BYTE_BIT_SIZE"), (4, u "LOG2_ARRAY_INT_INDEX_SCALE"), (54, u "JLA"), (0, u "Ljdk/internal/access/JavaLangAccess;"), (11, u "LOG2_ARRAY_BOOLEAN_INDEX_SCALE"), (9, u "LOG2_ARRAY_BYTE_INDEX_SCALE"), (5, u "LOG2_ARRAY_CHAR_INDEX_SCALE"), (5, u "LOG2_ARRAY_SHORT_INDEX_SCALE"), (18, u "LOG2_ARRAY_FLOAT_INDEX_SCALE"), (24, u "LOG2_ARRAY_DOUBLE_INDEX_SCALE"), (89, u "T_BOOLEAN"), (2, u "T_CHAR"), (1, u "T_FLOAT"), (1, u "T_DOUBLE"), (1, u "T_BYTE"), (1, u "T_SHORT"), (1, u "T_INT"), (1, u "T_LONG"), (1, u "SOFT_MAX_ARRAY_LENGTH")] 83

def k14m0 : Method := { name := "<init>", desc := "()V", sig := { parameters := [], returnType := none }, accessFlags := 2, code := none }
/-- jdk/internal/util/ArraysSupport -/
def k14 : Class := { plain "jdk/internal/util/ArraysSupport" (some 0) with
  accessFlags := 33
  interfaces := #[]
  cf := some (fileOf pool14 21 #[] #[{ accessFlags := 2, nameIndex := 9, descriptorIndex := 19, attributes := #[] }] 33 16 #[] #[{ accessFlags := 24, nameIndex := 28, descriptorIndex := 29, attributes := #[] }, { accessFlags := 26, nameIndex := 38, descriptorIndex := 39, attributes := #[] }, { accessFlags := 25, nameIndex := 121, descriptorIndex := 25, attributes := #[] }, { accessFlags := 25, nameIndex := 131, descriptorIndex := 25, attributes := #[] }, { accessFlags := 25, nameIndex := 137, descriptorIndex := 25, attributes := #[] }, { accessFlags := 25, nameIndex := 143, descriptorIndex := 25, attributes := #[] }, { accessFlags := 25, nameIndex := 53, descriptorIndex := 25, attributes := #[] }, { accessFlags := 25, nameIndex := 24, descriptorIndex := 25, attributes := #[] }, { accessFlags := 25, nameIndex := 162, descriptorIndex := 25, attributes := #[] }, { accessFlags := 25, nameIndex := 187, descriptorIndex := 25, attributes := #[] }, { accessFlags := 26, nameIndex := 48, descriptorIndex := 25, attributes := #[] }, { accessFlags := 25, nameIndex := 277, descriptorIndex := 25, attributes := #[] }, { accessFlags := 25, nameIndex := 280, descriptorIndex := 25, attributes := #[] }, { accessFlags := 25, nameIndex := 282, descriptorIndex := 25, attributes := #[] }, { accessFlags := 25, nameIndex := 284, descriptorIndex := 25, attributes := #[] }, { accessFlags := 25, nameIndex := 286, descriptorIndex := 25, attributes := #[] }, { accessFlags := 25, nameIndex := 288, descriptorIndex := 25, attributes := #[] }, { accessFlags := 25, nameIndex := 290, descriptorIndex := 25, attributes := #[] }, { accessFlags := 25, nameIndex := 292, descriptorIndex := 25, attributes := #[] }, { accessFlags := 26, nameIndex := 108, descriptorIndex := 109, attributes := #[] }, { accessFlags := 25, nameIndex := 294, descriptorIndex := 25, attributes := #[] }])
  fields := #[{ name := "U", type := (.object "jdk/internal/misc/Unsafe"), accessFlags := 24, slot := 0, constantValue := 0 }, { name := "BIG_ENDIAN", type := .boolean, accessFlags := 26, slot := 1, constantValue := 0 }, { name := "LOG2_ARRAY_BOOLEAN_INDEX_SCALE", type := .int, accessFlags := 25, slot := 2, constantValue := 0 }, { name := "LOG2_ARRAY_BYTE_INDEX_SCALE", type := .int, accessFlags := 25, slot := 3, constantValue := 0 }, { name := "LOG2_ARRAY_CHAR_INDEX_SCALE", type := .int, accessFlags := 25, slot := 4, constantValue := 0 }, { name := "LOG2_ARRAY_SHORT_INDEX_SCALE", type := .int, accessFlags := 25, slot := 5, constantValue := 0 }, { name := "LOG2_ARRAY_INT_INDEX_SCALE", type := .int, accessFlags := 25, slot := 6, constantValue := 0 }, { name := "LOG2_ARRAY_LONG_INDEX_SCALE", type := .int, accessFlags := 25, slot := 7, constantValue := 0 }, { name := "LOG2_ARRAY_FLOAT_INDEX_SCALE", type := .int, accessFlags := 25, slot := 8, constantValue := 0 }, { name := "LOG2_ARRAY_DOUBLE_INDEX_SCALE", type := .int, accessFlags := 25, slot := 9, constantValue := 0 }, { name := "LOG2_BYTE_BIT_SIZE", type := .int, accessFlags := 26, slot := 10, constantValue := 0 }, { name := "T_BOOLEAN", type := .int, accessFlags := 25, slot := 11, constantValue := 0 }, { name := "T_CHAR", type := .int, accessFlags := 25, slot := 12, constantValue := 0 }, { name := "T_FLOAT", type := .int, accessFlags := 25, slot := 13, constantValue := 0 }, { name := "T_DOUBLE", type := .int, accessFlags := 25, slot := 14, constantValue := 0 }, { name := "T_BYTE", type := .int, accessFlags := 25, slot := 15, constantValue := 0 }, { name := "T_SHORT", type := .int, accessFlags := 25, slot := 16, constantValue := 0 }, { name := "T_INT", type := .int, accessFlags := 25, slot := 17, constantValue := 0 }, { name := "T_LONG", type := .int, accessFlags := 25, slot := 18, constantValue := 0 }, { name := "JLA", type := (.object "jdk/internal/access/JavaLangAccess"), accessFlags := 26, slot := 19, constantValue := 0 }, { name := "SOFT_MAX_ARRAY_LENGTH", type := .int, accessFlags := 25, slot := 20, constantValue := 0 }]
  methods := #[k14m0]
  instanceTypes := #[]
  staticTypes := #[(.object "jdk/internal/misc/Unsafe"), .boolean, .int, .int, .int, .int, .int, .int, .int, .int, .int, .int, .int, .int, .int, .int, .int, .int, .int, (.object "jdk/internal/access/JavaLangAccess"), .int]
  resolved := Array.replicate 378 none
  statics := none }

def pool15 : Array CpInfo := pool [(1, u "java/lang/Cloneable"), (0, .class_ 1), (0, u "java/lang/Object"), (0, .class_ 3)] 3

/-- java/lang/Cloneable -/
def k15 : Class := { plain "java/lang/Cloneable" (some 0) with
  accessFlags := 1537
  interfaces := #[]
  cf := some (fileOf pool15 2 #[] #[] 1537 4 #[] #[])
  fields := #[]
  methods := #[]
  instanceTypes := #[]
  staticTypes := #[]
  resolved := Array.replicate 8 none
  statics := none }

/-- the primitive byte -/
def k16 : Class := { plain "byte" none with kind := .primitive 'B', accessFlags := 0x411 }
/-- [B -/
def k17 : Class := { plain "[B" (some 0) with kind := .array 16 .byte, interfaces := #[15, 4], accessFlags := 1041 }

/-- the primitive char -/
def k18 : Class := { plain "char" none with kind := .primitive 'C', accessFlags := 0x411 }
/-- [C -/
def k19 : Class := { plain "[C" (some 0) with kind := .array 18 .char, interfaces := #[15, 4], accessFlags := 1041 }

/-- the primitive int -/
def k20 : Class := { plain "int" none with kind := .primitive 'I', accessFlags := 0x411 }
/-- [I -/
def k21 : Class := { plain "[I" (some 0) with kind := .array 20 .int, interfaces := #[15, 4], accessFlags := 1041 }

def heap : Heap := #[{ cls := 6, slots := #[.ref 4, .ref 5, .ref 6, .ref 7, .ref 8, .ref 9, .ref 10, .ref 11, .ref 12, .null], vm := .statics 6 },
  { cls := 9, slots := #[.long 0, .int 1, .null, .int 0, .null, .int 0, .int 0], vm := .statics 9 },
  { cls := 10, slots := #[.int 0, .int 8, .int 0, .int 1], vm := .statics 10 },
  { cls := 12, slots := #[.null, .null, .null], vm := .statics 12 },
  { cls := 6, slots := #[.null, .int 0, .int 0], vm := .none },
  { cls := 6, slots := #[.null, .int 1, .int 0], vm := .none },
  { cls := 6, slots := #[.null, .int 2, .int 0], vm := .none },
  { cls := 6, slots := #[.null, .int 3, .int 0], vm := .none },
  { cls := 6, slots := #[.null, .int 4, .int 0], vm := .none },
  { cls := 6, slots := #[.null, .int 5, .int 0], vm := .none },
  { cls := 6, slots := #[.null, .int 6, .int 0], vm := .none },
  { cls := 6, slots := #[.null, .int 7, .int 0], vm := .none },
  { cls := 6, slots := #[.null, .int 8, .int 0], vm := .none }]
def classes : Array Class := #[k0, k1, k2, k3, k4, k5, k6, k7, k8, k9, k10, k11, k12, k13, k14, k15, k16, k17, k18, k19, k20, k21]
def interned : List (Array UInt16 × Addr) := []
def slotsUsed : Nat := 51
def theMethod : MethodId := ⟨1, 1⟩
def args0 : Array Value := #[.int 5, .int 5, .int 5, .int 5, .int 5]
def aboutOver (below : List Frame) : State where
  vm := { classes := classes, interned := interned.toArray }
  heap := heap
  slotsUsed := slotsUsed
  threads := #[{ frames := .invoking theMethod args0 :: below }]
def below0 : List Frame := [.native { method := ⟨0, 0⟩, args := #[] }]
def about1 : State := aboutOver below0
def p0 : Program := .bare "" "" ""
def e0 : Env := launch0.env 0 0 0
theorem w_frames : about1.frames = Frame.invoking theMethod args0 :: below0 := rfl
set_option maxRecDepth 65536 in
theorem w_args : argsFit about1.vm theMethod args0 = true := by decide +kernel
set_option maxRecDepth 65536 in
theorem w_heap : heapFits about1 = true := by decide +kernel
set_option maxRecDepth 65536 in
theorem w_runnable : about1.curStatus? = some .runnable := by decide +kernel
set_option maxRecDepth 65536 in
theorem w_alone : about1.alone = true := by decide +kernel
set_option maxRecDepth 65536 in
theorem w_named : about1.methodNamed? x = some theMethod := by decide +kernel
set_option maxRecDepth 65536 in
theorem w_hears : about1.hears theMethod below0 = true := by decide +kernel
set_option maxRecDepth 65536 in
theorem w_ripe : about1.ripe theMethod args0 below0 = true := by decide +kernel
theorem w_running : about1.status = .running := rfl
set_option maxRecDepth 65536 in
theorem w_room : about1.hasRoom e0.platform room_1 = true :=
  launch0.hasRoom_least _ room_1 (by decide +kernel) (by decide +kernel) (by decide +kernel) (by decide +kernel) (by decide +kernel) (by decide +kernel)
theorem allAtoms_all (ts : List Jvm.Cond) (a : Array Jvm.Value) (st : Jvm.State) : (allAtoms ts).before a st = ts.all (fun c => c.before a st) := by
  induction ts with
  | nil => rfl
  | cons c t ih =>
    show (Jvm.Cond.and c (allAtoms t)).before a st = _
    rw [Jvm.Cond.before_and, ih, List.all_cons]
def words1 : List Jvm.Cond := Jvm.Cond.code x code maxLocals ret :: tables_1
/-- a 'code' word, met by the world's own term for the bytes: nothing is compared byte by byte -/
theorem code_word {y : MethodName} {bytes : ByteArray} {mx : Nat} {rt : Option FieldType} {a : Array Value} {s : State} {m : MethodId} {meth : Method} {c : Code} (h1 : s.methodNamed? y = some m) (h2 : s.vm.method? m = some meth) (h3 : meth.code = some c) (h4 : c.code = bytes)
    (h5 : (c.maxLocals == mx && c.exceptionTable.isEmpty && decide (c.maxStack ≤ mostOperands) && decide (meth.sig.returnType = rt) && !meth.locks && decide (parseMethodDescriptor y.desc = some meth.sig)) = true) : (Jvm.Cond.code y bytes mx rt).before a s = true := by
  simp only [Bool.and_eq_true, beq_iff_eq, Bool.not_eq_true', decide_eq_true_eq] at h5
  obtain ⟨⟨⟨⟨⟨g1, g2⟩, g3⟩, g4⟩, g5⟩, g6⟩ := h5
  simp [Cond.before, Cond.holds, Cond.value, h1, h2, h3, h4, g1, g2, g3, g4, g5, g6]
def isCode : Jvm.Cond → Bool
  | .code _ _ _ _ => true
  | _ => false
theorem all_split {L : List Jvm.Cond} {P : Jvm.Cond → Bool} (h1 : L.all (fun c => isCode c || P c) = true) (h2 : ∀ c ∈ L.filter isCode, P c = true) : L.all P = true := by
  refine List.all_eq_true.mpr fun c hc => ?_
  have h := List.all_eq_true.mp h1 c hc
  rcases Bool.eq_false_or_eq_true (isCode c) with hi | hi
  · exact h2 c (List.mem_filter.mpr ⟨hc, hi⟩)
  · simpa [hi] using h
set_option maxRecDepth 65536 in
theorem w_c0 : (Jvm.Cond.code x code maxLocals ret).before args0 about1 = true := code_word (m := ⟨1, 1⟩) (meth := k1m1) (c := k1c1) (by decide +kernel) rfl rfl rfl (by decide +kernel)
set_option maxRecDepth 65536 in
theorem w_c1 : (Jvm.Cond.code ({ cls := "com/example/tabent/tabent/query/TokenIsPinLaw", name := "kindOf", desc := "(I)Lcom/example/tabent/tabent/query/Token$Kind;" } : Jvm.MethodName) method_3_code (2 : Nat) (Option.some (Jvm.ClassFile.FieldType.object "com/example/tabent/tabent/query/Token$Kind"))).before args0 about1 = true := code_word (m := ⟨1, 2⟩) (meth := k1m2) (c := k1c2) (by decide +kernel) rfl rfl rfl (by decide +kernel)
set_option maxRecDepth 65536 in
theorem w_c2 : (Jvm.Cond.code ({ cls := "com/example/tabent/tabent/query/TokenIsPinLaw", name := "draw", desc := "(I)C" } : Jvm.MethodName) method_4_code (3 : Nat) (Option.some Jvm.ClassFile.FieldType.char)).before args0 about1 = true := code_word (m := ⟨1, 3⟩) (meth := k1m3) (c := k1c3) (by decide +kernel) rfl rfl rfl (by decide +kernel)
set_option maxRecDepth 65536 in
theorem w_c3 : (Jvm.Cond.code ({ cls := "com/example/tabent/tabent/query/TokenIsPinLaw", name := "up", desc := "(C)C" } : Jvm.MethodName) method_5_code (1 : Nat) (Option.some Jvm.ClassFile.FieldType.char)).before args0 about1 = true := code_word (m := ⟨1, 4⟩) (meth := k1m4) (c := k1c4) (by decide +kernel) rfl rfl rfl (by decide +kernel)
set_option maxRecDepth 65536 in
theorem w_c4 : (Jvm.Cond.code ({ cls := "com/example/tabent/tabent/query/TokenIsPinLaw", name := "make", desc := "(ICCC)Ljava/lang/String;" } : Jvm.MethodName) method_6_code (4 : Nat) (Option.some (Jvm.ClassFile.FieldType.object "java/lang/String"))).before args0 about1 = true := code_word (m := ⟨1, 5⟩) (meth := k1m5) (c := k1c5) (by decide +kernel) rfl rfl rfl (by decide +kernel)
set_option maxRecDepth 65536 in
theorem w_c5 : (Jvm.Cond.code ({ cls := "java/lang/String", name := "<init>", desc := "([C)V" } : Jvm.MethodName) jdk_42_method_3_code (2 : Nat) (Option.none : Option Jvm.ClassFile.FieldType)).before args0 about1 = true := code_word (m := ⟨9, 1⟩) (meth := k9m1) (c := k9c1) (by decide +kernel) rfl rfl rfl (by decide +kernel)
set_option maxRecDepth 65536 in
theorem w_c6 : (Jvm.Cond.code ({ cls := "java/lang/String", name := "<init>", desc := "([CIILjava/lang/Void;)V" } : Jvm.MethodName) jdk_42_method_149_code (6 : Nat) (Option.none : Option Jvm.ClassFile.FieldType)).before args0 about1 = true := code_word (m := ⟨9, 4⟩) (meth := k9m4) (c := k9c4) (by decide +kernel) rfl rfl rfl (by decide +kernel)
set_option maxRecDepth 65536 in
theorem w_c7 : (Jvm.Cond.code ({ cls := "java/lang/Object", name := "<init>", desc := "()V" } : Jvm.MethodName) object_method_1_code (1 : Nat) (Option.none : Option Jvm.ClassFile.FieldType)).before args0 about1 = true := code_word (m := ⟨0, 0⟩) (meth := k0m0) (c := k0c0) (by decide +kernel) rfl rfl rfl (by decide +kernel)
set_option maxRecDepth 65536 in
theorem w_c8 : (Jvm.Cond.code ({ cls := "java/lang/StringUTF16", name := "compress", desc := "([CII)[B" } : Jvm.MethodName) jdk_52_method_16_code (6 : Nat) (Option.some (Jvm.ClassFile.FieldType.array Jvm.ClassFile.FieldType.byte))).before args0 about1 = true := code_word (m := ⟨10, 9⟩) (meth := k10m9) (c := k10c9) (by decide +kernel) rfl rfl rfl (by decide +kernel)
set_option maxRecDepth 65536 in
theorem w_c9 : (Jvm.Cond.code ({ cls := "java/lang/StringUTF16", name := "compress", desc := "([CI[BII)I" } : Jvm.MethodName) jdk_52_method_21_code (7 : Nat) (Option.some Jvm.ClassFile.FieldType.int)).before args0 about1 = true := code_word (m := ⟨10, 10⟩) (meth := k10m10) (c := k10c10) (by decide +kernel) rfl rfl rfl (by decide +kernel)
set_option maxRecDepth 65536 in
theorem w_c10 : (Jvm.Cond.code ({ cls := "java/lang/StringUTF16", name := "toBytes", desc := "([CII)[B" } : Jvm.MethodName) jdk_52_method_14_code (5 : Nat) (Option.some (Jvm.ClassFile.FieldType.array Jvm.ClassFile.FieldType.byte))).before args0 about1 = true := code_word (m := ⟨10, 7⟩) (meth := k10m7) (c := k10c7) (by decide +kernel) rfl rfl rfl (by decide +kernel)
set_option maxRecDepth 65536 in
theorem w_c11 : (Jvm.Cond.code ({ cls := "java/lang/StringUTF16", name := "newBytesFor", desc := "(I)[B" } : Jvm.MethodName) jdk_52_method_2_code (1 : Nat) (Option.some (Jvm.ClassFile.FieldType.array Jvm.ClassFile.FieldType.byte))).before args0 about1 = true := code_word (m := ⟨10, 1⟩) (meth := k10m1) (c := k10c1) (by decide +kernel) rfl rfl rfl (by decide +kernel)
set_option maxRecDepth 65536 in
theorem w_c12 : (Jvm.Cond.code ({ cls := "java/lang/StringUTF16", name := "newBytesLength", desc := "(I)I" } : Jvm.MethodName) jdk_52_method_3_code (1 : Nat) (Option.some Jvm.ClassFile.FieldType.int)).before args0 about1 = true := code_word (m := ⟨10, 2⟩) (meth := k10m2) (c := k10c2) (by decide +kernel) rfl rfl rfl (by decide +kernel)
set_option maxRecDepth 65536 in
theorem w_c13 : (Jvm.Cond.code ({ cls := "java/lang/StringUTF16", name := "putChar", desc := "([BII)V" } : Jvm.MethodName) jdk_52_method_4_code (3 : Nat) (Option.none : Option Jvm.ClassFile.FieldType)).before args0 about1 = true := code_word (m := ⟨10, 3⟩) (meth := k10m3) (c := k10c3) (by decide +kernel) rfl rfl rfl (by decide +kernel)
set_option maxRecDepth 65536 in
theorem w_c14 : (Jvm.Cond.code ({ cls := "java/lang/StringUTF16", name := "getChar", desc := "([BI)C" } : Jvm.MethodName) jdk_52_method_5_code (2 : Nat) (Option.some Jvm.ClassFile.FieldType.char)).before args0 about1 = true := code_word (m := ⟨10, 4⟩) (meth := k10m4) (c := k10c4) (by decide +kernel) rfl rfl rfl (by decide +kernel)
set_option maxRecDepth 65536 in
theorem w_c15 : (Jvm.Cond.code ({ cls := "java/lang/StringUTF16", name := "coderFromArrayLen", desc := "([BI)B" } : Jvm.MethodName) jdk_52_method_15_code (2 : Nat) (Option.some Jvm.ClassFile.FieldType.byte)).before args0 about1 = true := code_word (m := ⟨10, 8⟩) (meth := k10m8) (c := k10c8) (by decide +kernel) rfl rfl rfl (by decide +kernel)
set_option maxRecDepth 65536 in
theorem w_c16 : (Jvm.Cond.code ({ cls := "com/example/tabent/tabent/query/Token", name := "<init>", desc := "(Lcom/example/tabent/tabent/query/Token$Kind;Ljava/lang/String;Ljava/lang/Object;I)V" } : Jvm.MethodName) prog_8_method_1_code (5 : Nat) (Option.none : Option Jvm.ClassFile.FieldType)).before args0 about1 = true := code_word (m := ⟨11, 0⟩) (meth := k11m0) (c := k11c0) (by decide +kernel) rfl rfl rfl (by decide +kernel)
set_option maxRecDepth 65536 in
theorem w_c17 : (Jvm.Cond.code ({ cls := "com/example/tabent/tabent/query/Token", name := "asciiUpperCase", desc := "(Ljava/lang/String;)Ljava/lang/String;" } : Jvm.MethodName) prog_8_method_10_code (3 : Nat) (Option.some (Jvm.ClassFile.FieldType.object "java/lang/String"))).before args0 about1 = true := code_word (m := ⟨11, 2⟩) (meth := k11m2) (c := k11c2) (by decide +kernel) rfl rfl rfl (by decide +kernel)
set_option maxRecDepth 65536 in
theorem w_c18 : (Jvm.Cond.code ({ cls := "java/lang/String", name := "toCharArray", desc := "()[C" } : Jvm.MethodName) jdk_42_method_129_code (1 : Nat) (Option.some (Jvm.ClassFile.FieldType.array Jvm.ClassFile.FieldType.char))).before args0 about1 = true := code_word (m := ⟨9, 3⟩) (meth := k9m3) (c := k9c3) (by decide +kernel) rfl rfl rfl (by decide +kernel)
set_option maxRecDepth 65536 in
theorem w_c19 : (Jvm.Cond.code ({ cls := "java/lang/String", name := "isLatin1", desc := "()Z" } : Jvm.MethodName) jdk_42_method_154_code (1 : Nat) (Option.some Jvm.ClassFile.FieldType.boolean)).before args0 about1 = true := code_word (m := ⟨9, 5⟩) (meth := k9m5) (c := k9c5) (by decide +kernel) rfl rfl rfl (by decide +kernel)
set_option maxRecDepth 65536 in
theorem w_c20 : (Jvm.Cond.code ({ cls := "java/lang/StringUTF16", name := "toChars", desc := "([B)[C" } : Jvm.MethodName) jdk_52_method_13_code (2 : Nat) (Option.some (Jvm.ClassFile.FieldType.array Jvm.ClassFile.FieldType.char))).before args0 about1 = true := code_word (m := ⟨10, 6⟩) (meth := k10m6) (c := k10c6) (by decide +kernel) rfl rfl rfl (by decide +kernel)
set_option maxRecDepth 65536 in
theorem w_c21 : (Jvm.Cond.code ({ cls := "java/lang/StringUTF16", name := "getChars", desc := "([BII[CI)V" } : Jvm.MethodName) jdk_52_method_26_code (6 : Nat) (Option.none : Option Jvm.ClassFile.FieldType)).before args0 about1 = true := code_word (m := ⟨10, 11⟩) (meth := k10m11) (c := k10c11) (by decide +kernel) rfl rfl rfl (by decide +kernel)
set_option maxRecDepth 65536 in
theorem w_c22 : (Jvm.Cond.code ({ cls := "java/lang/StringUTF16", name := "checkBoundsOffCount", desc := "(II[B)V" } : Jvm.MethodName) jdk_52_method_94_code (3 : Nat) (Option.none : Option Jvm.ClassFile.FieldType)).before args0 about1 = true := code_word (m := ⟨10, 12⟩) (meth := k10m12) (c := k10c12) (by decide +kernel) rfl rfl rfl (by decide +kernel)
set_option maxRecDepth 65536 in
theorem w_c23 : (Jvm.Cond.code ({ cls := "java/lang/StringUTF16", name := "length", desc := "([B)I" } : Jvm.MethodName) jdk_52_method_6_code (1 : Nat) (Option.some Jvm.ClassFile.FieldType.int)).before args0 about1 = true := code_word (m := ⟨10, 5⟩) (meth := k10m5) (c := k10c5) (by decide +kernel) rfl rfl rfl (by decide +kernel)
set_option maxRecDepth 65536 in
theorem w_c24 : (Jvm.Cond.code ({ cls := "java/lang/String", name := "checkBoundsOffCount", desc := "(III)I" } : Jvm.MethodName) jdk_42_method_157_code (3 : Nat) (Option.some Jvm.ClassFile.FieldType.int)).before args0 about1 = true := code_word (m := ⟨9, 6⟩) (meth := k9m6) (c := k9c6) (by decide +kernel) rfl rfl rfl (by decide +kernel)
set_option maxRecDepth 65536 in
theorem w_c25 : (Jvm.Cond.code ({ cls := "jdk/internal/util/Preconditions", name := "checkFromIndexSize", desc := "(IIILjava/util/function/BiFunction;)I" } : Jvm.MethodName) jdk_41_method_13_code (4 : Nat) (Option.some Jvm.ClassFile.FieldType.int)).before args0 about1 = true := code_word (m := ⟨12, 1⟩) (meth := k12m1) (c := k12c1) (by decide +kernel) rfl rfl rfl (by decide +kernel)
set_option maxRecDepth 65536 in
theorem w_c26 : (Jvm.Cond.code ({ cls := "com/example/tabent/tabent/query/Token", name := "is", desc := "(Ljava/lang/String;)Z" } : Jvm.MethodName) prog_8_method_6_code (2 : Nat) (Option.some Jvm.ClassFile.FieldType.boolean)).before args0 about1 = true := code_word (m := ⟨11, 1⟩) (meth := k11m1) (c := k11c1) (by decide +kernel) rfl rfl rfl (by decide +kernel)
set_option maxRecDepth 65536 in
theorem w_c27 : (Jvm.Cond.code ({ cls := "java/lang/String", name := "equals", desc := "(Ljava/lang/Object;)Z" } : Jvm.MethodName) jdk_42_method_66_code (3 : Nat) (Option.some Jvm.ClassFile.FieldType.boolean)).before args0 about1 = true := code_word (m := ⟨9, 2⟩) (meth := k9m2) (c := k9c2) (by decide +kernel) rfl rfl rfl (by decide +kernel)
set_option maxRecDepth 65536 in
theorem w_c28 : (Jvm.Cond.code ({ cls := "java/lang/StringLatin1", name := "equals", desc := "([B[B)Z" } : Jvm.MethodName) jdk_43_method_13_code (3 : Nat) (Option.some Jvm.ClassFile.FieldType.boolean)).before args0 about1 = true := code_word (m := ⟨13, 2⟩) (meth := k13m2) (c := k13c2) (by decide +kernel) rfl rfl rfl (by decide +kernel)
set_option maxRecDepth 65536 in
theorem w_c29 : (Jvm.Cond.code ({ cls := "java/lang/StringLatin1", name := "toChars", desc := "([B)[C" } : Jvm.MethodName) jdk_43_method_9_code (2 : Nat) (Option.some (Jvm.ClassFile.FieldType.array Jvm.ClassFile.FieldType.char))).before args0 about1 = true := code_word (m := ⟨13, 1⟩) (meth := k13m1) (c := k13c1) (by decide +kernel) rfl rfl rfl (by decide +kernel)
set_option maxRecDepth 65536 in
theorem w_c30 : (Jvm.Cond.code ({ cls := "java/lang/StringLatin1", name := "inflate", desc := "([BI[CII)V" } : Jvm.MethodName) jdk_43_method_49_code (6 : Nat) (Option.none : Option Jvm.ClassFile.FieldType)).before args0 about1 = true := code_word (m := ⟨13, 3⟩) (meth := k13m3) (c := k13c3) (by decide +kernel) rfl rfl rfl (by decide +kernel)
def codes1 : List Jvm.Cond := [Jvm.Cond.code x code maxLocals ret, Jvm.Cond.code ({ cls := "com/example/tabent/tabent/query/TokenIsPinLaw", name := "kindOf", desc := "(I)Lcom/example/tabent/tabent/query/Token$Kind;" } : Jvm.MethodName) method_3_code (2 : Nat) (Option.some (Jvm.ClassFile.FieldType.object "com/example/tabent/tabent/query/Token$Kind")), Jvm.Cond.code ({ cls := "com/example/tabent/tabent/query/TokenIsPinLaw", name := "draw", desc := "(I)C" } : Jvm.MethodName) method_4_code (3 : Nat) (Option.some Jvm.ClassFile.FieldType.char), Jvm.Cond.code ({ cls := "com/example/tabent/tabent/query/TokenIsPinLaw", name := "up", desc := "(C)C" } : Jvm.MethodName) method_5_code (1 : Nat) (Option.some Jvm.ClassFile.FieldType.char), Jvm.Cond.code ({ cls := "com/example/tabent/tabent/query/TokenIsPinLaw", name := "make", desc := "(ICCC)Ljava/lang/String;" } : Jvm.MethodName) method_6_code (4 : Nat) (Option.some (Jvm.ClassFile.FieldType.object "java/lang/String")), Jvm.Cond.code ({ cls := "java/lang/String", name := "<init>", desc := "([C)V" } : Jvm.MethodName) jdk_42_method_3_code (2 : Nat) (Option.none : Option Jvm.ClassFile.FieldType), Jvm.Cond.code ({ cls := "java/lang/String", name := "<init>", desc := "([CIILjava/lang/Void;)V" } : Jvm.MethodName) jdk_42_method_149_code (6 : Nat) (Option.none : Option Jvm.ClassFile.FieldType), Jvm.Cond.code ({ cls := "java/lang/Object", name := "<init>", desc := "()V" } : Jvm.MethodName) object_method_1_code (1 : Nat) (Option.none : Option Jvm.ClassFile.FieldType), Jvm.Cond.code ({ cls := "java/lang/StringUTF16", name := "compress", desc := "([CII)[B" } : Jvm.MethodName) jdk_52_method_16_code (6 : Nat) (Option.some (Jvm.ClassFile.FieldType.array Jvm.ClassFile.FieldType.byte)), Jvm.Cond.code ({ cls := "java/lang/StringUTF16", name := "compress", desc := "([CI[BII)I" } : Jvm.MethodName) jdk_52_method_21_code (7 : Nat) (Option.some Jvm.ClassFile.FieldType.int), Jvm.Cond.code ({ cls := "java/lang/StringUTF16", name := "toBytes", desc := "([CII)[B" } : Jvm.MethodName) jdk_52_method_14_code (5 : Nat) (Option.some (Jvm.ClassFile.FieldType.array Jvm.ClassFile.FieldType.byte)), Jvm.Cond.code ({ cls := "java/lang/StringUTF16", name := "newBytesFor", desc := "(I)[B" } : Jvm.MethodName) jdk_52_method_2_code (1 : Nat) (Option.some (Jvm.ClassFile.FieldType.array Jvm.ClassFile.FieldType.byte)), Jvm.Cond.code ({ cls := "java/lang/StringUTF16", name := "newBytesLength", desc := "(I)I" } : Jvm.MethodName) jdk_52_method_3_code (1 : Nat) (Option.some Jvm.ClassFile.FieldType.int), Jvm.Cond.code ({ cls := "java/lang/StringUTF16", name := "putChar", desc := "([BII)V" } : Jvm.MethodName) jdk_52_method_4_code (3 : Nat) (Option.none : Option Jvm.ClassFile.FieldType), Jvm.Cond.code ({ cls := "java/lang/StringUTF16", name := "getChar", desc := "([BI)C" } : Jvm.MethodName) jdk_52_method_5_code (2 : Nat) (Option.some Jvm.ClassFile.FieldType.char), Jvm.Cond.code ({ cls := "java/lang/StringUTF16", name := "coderFromArrayLen", desc := "([BI)B" } : Jvm.MethodName) jdk_52_method_15_code (2 : Nat) (Option.some Jvm.ClassFile.FieldType.byte), Jvm.Cond.code ({ cls := "com/example/tabent/tabent/query/Token", name := "<init>", desc := "(Lcom/example/tabent/tabent/query/Token$Kind;Ljava/lang/String;Ljava/lang/Object;I)V" } : Jvm.MethodName) prog_8_method_1_code (5 : Nat) (Option.none : Option Jvm.ClassFile.FieldType), Jvm.Cond.code ({ cls := "com/example/tabent/tabent/query/Token", name := "asciiUpperCase", desc := "(Ljava/lang/String;)Ljava/lang/String;" } : Jvm.MethodName) prog_8_method_10_code (3 : Nat) (Option.some (Jvm.ClassFile.FieldType.object "java/lang/String")), Jvm.Cond.code ({ cls := "java/lang/String", name := "toCharArray", desc := "()[C" } : Jvm.MethodName) jdk_42_method_129_code (1 : Nat) (Option.some (Jvm.ClassFile.FieldType.array Jvm.ClassFile.FieldType.char)), Jvm.Cond.code ({ cls := "java/lang/String", name := "isLatin1", desc := "()Z" } : Jvm.MethodName) jdk_42_method_154_code (1 : Nat) (Option.some Jvm.ClassFile.FieldType.boolean), Jvm.Cond.code ({ cls := "java/lang/StringUTF16", name := "toChars", desc := "([B)[C" } : Jvm.MethodName) jdk_52_method_13_code (2 : Nat) (Option.some (Jvm.ClassFile.FieldType.array Jvm.ClassFile.FieldType.char)), Jvm.Cond.code ({ cls := "java/lang/StringUTF16", name := "getChars", desc := "([BII[CI)V" } : Jvm.MethodName) jdk_52_method_26_code (6 : Nat) (Option.none : Option Jvm.ClassFile.FieldType), Jvm.Cond.code ({ cls := "java/lang/StringUTF16", name := "checkBoundsOffCount", desc := "(II[B)V" } : Jvm.MethodName) jdk_52_method_94_code (3 : Nat) (Option.none : Option Jvm.ClassFile.FieldType), Jvm.Cond.code ({ cls := "java/lang/StringUTF16", name := "length", desc := "([B)I" } : Jvm.MethodName) jdk_52_method_6_code (1 : Nat) (Option.some Jvm.ClassFile.FieldType.int), Jvm.Cond.code ({ cls := "java/lang/String", name := "checkBoundsOffCount", desc := "(III)I" } : Jvm.MethodName) jdk_42_method_157_code (3 : Nat) (Option.some Jvm.ClassFile.FieldType.int), Jvm.Cond.code ({ cls := "jdk/internal/util/Preconditions", name := "checkFromIndexSize", desc := "(IIILjava/util/function/BiFunction;)I" } : Jvm.MethodName) jdk_41_method_13_code (4 : Nat) (Option.some Jvm.ClassFile.FieldType.int), Jvm.Cond.code ({ cls := "com/example/tabent/tabent/query/Token", name := "is", desc := "(Ljava/lang/String;)Z" } : Jvm.MethodName) prog_8_method_6_code (2 : Nat) (Option.some Jvm.ClassFile.FieldType.boolean), Jvm.Cond.code ({ cls := "java/lang/String", name := "equals", desc := "(Ljava/lang/Object;)Z" } : Jvm.MethodName) jdk_42_method_66_code (3 : Nat) (Option.some Jvm.ClassFile.FieldType.boolean), Jvm.Cond.code ({ cls := "java/lang/StringLatin1", name := "equals", desc := "([B[B)Z" } : Jvm.MethodName) jdk_43_method_13_code (3 : Nat) (Option.some Jvm.ClassFile.FieldType.boolean), Jvm.Cond.code ({ cls := "java/lang/StringLatin1", name := "toChars", desc := "([B)[C" } : Jvm.MethodName) jdk_43_method_9_code (2 : Nat) (Option.some (Jvm.ClassFile.FieldType.array Jvm.ClassFile.FieldType.char)), Jvm.Cond.code ({ cls := "java/lang/StringLatin1", name := "inflate", desc := "([BI[CII)V" } : Jvm.MethodName) jdk_43_method_49_code (6 : Nat) (Option.none : Option Jvm.ClassFile.FieldType)]
set_option maxRecDepth 65536 in
theorem codes_eq : words1.filter isCode = codes1 := rfl
theorem w_codes : ∀ c ∈ words1.filter isCode, c.before args0 about1 = true := by
  rw [codes_eq]
  intro c hc
  simp only [codes1, List.mem_cons, List.not_mem_nil, or_false] at hc
  rcases hc with rfl | rfl | rfl | rfl | rfl | rfl | rfl | rfl | rfl | rfl | rfl | rfl | rfl | rfl | rfl | rfl | rfl | rfl | rfl | rfl | rfl | rfl | rfl | rfl | rfl | rfl | rfl | rfl | rfl | rfl | rfl
  · exact w_c0
  · exact w_c1
  · exact w_c2
  · exact w_c3
  · exact w_c4
  · exact w_c5
  · exact w_c6
  · exact w_c7
  · exact w_c8
  · exact w_c9
  · exact w_c10
  · exact w_c11
  · exact w_c12
  · exact w_c13
  · exact w_c14
  · exact w_c15
  · exact w_c16
  · exact w_c17
  · exact w_c18
  · exact w_c19
  · exact w_c20
  · exact w_c21
  · exact w_c22
  · exact w_c23
  · exact w_c24
  · exact w_c25
  · exact w_c26
  · exact w_c27
  · exact w_c28
  · exact w_c29
  · exact w_c30
set_option maxRecDepth 65536 in
theorem w_t1 : (words1.take 24).all (fun c => isCode c || c.before args0 about1) = true := by decide +kernel
set_option maxRecDepth 65536 in
theorem w_t2 : ((words1.drop 24).take 24).all (fun c => isCode c || c.before args0 about1) = true := by decide +kernel
set_option maxRecDepth 65536 in
theorem w_t3 : (((words1.drop 24).drop 24).take 24).all (fun c => isCode c || c.before args0 about1) = true := by decide +kernel
set_option maxRecDepth 65536 in
theorem w_t4 : ((((words1.drop 24).drop 24).drop 24).take 24).all (fun c => isCode c || c.before args0 about1) = true := by decide +kernel
set_option maxRecDepth 65536 in
theorem w_t5 : (((((words1.drop 24).drop 24).drop 24).drop 24).take 24).all (fun c => isCode c || c.before args0 about1) = true := by decide +kernel
set_option maxRecDepth 65536 in
theorem w_t6 : ((((((words1.drop 24).drop 24).drop 24).drop 24).drop 24).take 24).all (fun c => isCode c || c.before args0 about1) = true := by decide +kernel
set_option maxRecDepth 65536 in
theorem w_t7 : ((((((words1.drop 24).drop 24).drop 24).drop 24).drop 24).drop 24).all (fun c => isCode c || c.before args0 about1) = true := by decide +kernel
theorem w_tables : (allAtoms (Jvm.Cond.code x code maxLocals ret :: tables_1)).before args0 about1 = true := by
  rw [allAtoms_all]
  show words1.all (fun c => c.before args0 about1) = true
  refine all_split ?_ w_codes
  rw [← List.take_append_drop 24 words1, List.all_append, w_t1, ← List.take_append_drop 24 (words1.drop 24), List.all_append, w_t2, ← List.take_append_drop 24 ((words1.drop 24).drop 24), List.all_append, w_t3, ← List.take_append_drop 24 (((words1.drop 24).drop 24).drop 24), List.all_append, w_t4, ← List.take_append_drop 24 ((((words1.drop 24).drop 24).drop 24).drop 24), List.all_append, w_t5, ← List.take_append_drop 24 (((((words1.drop 24).drop 24).drop 24).drop 24).drop 24), List.all_append, w_t6, w_t7]
  rfl
set_option maxRecDepth 65536 in
theorem w_rest : rest_1_c.before args0 about1 = true := by decide +kernel
set_option maxRecDepth 65536 in
theorem w_case : (Jvm.Cond.and given_1 narrow_1).before args0 about1 = true := by decide +kernel
set_option maxRecDepth 65536 in
theorem w_consts : constsHeld consts_1 about1 := Jvm.Lit.constsHeldB_iff.mp (by decide +kernel)
theorem w_applies : (headSpec (Jvm.Cond.code x code maxLocals ret :: tables_1) room_1).applies x e0.platform about1 = true :=
  (Spec.applies_iff w_frames).mpr ⟨w_running, w_runnable, w_alone, w_named, w_hears, w_ripe, w_room, w_tables⟩
theorem atStart : AtStart classFile x code maxLocals ret World_1 tables_1 room_1 Calls_1 rest_1 Pre_1 launch0 p0 e0 about1 theMethod args0 below0 :=
  ⟨lists_1, trivial, launch0.admits_env _ _ _, launch0.least_env, fairChoices_fair.cas, fairChoices_fair.clock, w_frames, w_args, w_heap, w_applies, ⟨w_consts, trivial⟩, w_rest, w_case⟩
end start1
theorem witness_1 : WitnessClaimed_1 := ⟨start1.p0, start1.e0, start1.about1, start1.theMethod, start1.args0, start1.below0, start1.atStart⟩
end Jvm.Pilot.@@N@@
