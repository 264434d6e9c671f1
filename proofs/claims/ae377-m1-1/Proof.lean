import JvmDerived
import JvmDerived.Pilot.@@N@@Statement
import JvmDerived.Pilot.@@N@@Code
set_option linter.unusedVariables false
set_option linter.unusedSimpArgs false
/- laws to paste: Road.lenW, Road.low_at, StrChars.pair_says, StrChars.chr8_lo8, StrChars.shr1, StrChars.narrow_ch (cut by pick.py; bodies as the Statement names them) -/
namespace Jvm.Pilot.@@N@@
namespace StrChars
open Jvm Sem ClassFile Op Lib Jvm.Stand Jvm.Free.XT Jvm.Free.ALB Jvm.Free.JM Jvm.Free
open Jvm.Lib.Cold (StaticIs)
/-- the byte that i2b leaves of a char -/
def lo8 (x : Int32) : Int32 := x.toInt8.toInt32
def U16 : String := "java/lang/StringUTF16"
namespace Cmp5
def yN : MethodName := ⟨"java/lang/StringUTF16", "compress", "([CI[BII)I"⟩
abbrev yB : ByteArray := jdk_52_method_21_code
end Cmp5
namespace Cmp3
def yN : MethodName := ⟨"java/lang/StringUTF16", "compress", "([CII)[B"⟩
abbrev yB : ByteArray := jdk_52_method_16_code
end Cmp3
namespace CodL
def yN : MethodName := ⟨"java/lang/StringUTF16", "coderFromArrayLen", "([BI)B"⟩
abbrev yB : ByteArray := jdk_52_method_15_code
end CodL
namespace New4
def yN : MethodName := ⟨"java/lang/String", "<init>", "([CIILjava/lang/Void;)V"⟩
abbrev yB : ByteArray := jdk_42_method_149_code
end New4
namespace New1
def yN : MethodName := ⟨"java/lang/String", "<init>", "([C)V"⟩
abbrev yB : ByteArray := jdk_42_method_3_code
end New1
/-- the byte, read back as charAt reads it, is the char -/
theorem lo8_mask {x : Int32} (h0 : ¬ x < 0) (h1 : ¬ 255 < x) : lo8 x &&& 255 = x := by
  have t : ∀ k : Fin 256, lo8 (Int32.ofNat k.val) &&& 255 = Int32.ofNat k.val := by decide +kernel
  rw [Int32.lt_iff_toInt_lt] at h0 h1
  have e0 : (0 : Int32).toInt = 0 := rfl
  have e1 : (255 : Int32).toInt = 255 := rfl
  obtain ⟨k, hk⟩ : ∃ k : Nat, x.toInt = k := ⟨x.toInt.toNat, by omega⟩
  have hx : x = Int32.ofNat k := Int32.toInt_inj.mp (by rw [hk, Int32.toInt_ofNat_small (by omega)])
  rw [hx]
  exact t ⟨k, by omega⟩
end StrChars
namespace StrChars.Road
open Jvm Sem ClassFile Op Lib Jvm.Stand Jvm.Free Jvm.Free.XT
open Jvm.Lib.Cold (StaticIs)
abbrev ST : String := "java/lang/String"
/-- every table word that New1's law asks, flat -/
abbrev words : List Jvm.Cond := [.code New1.yN New1.yB 2 none, .initialized ST, .methodLink ST 27 New4.yN, .instanceMethod New4.yN,
  .code New4.yN New4.yB 6 none, .fieldLink ST 38 ST "COMPACT_STRINGS" "Z", .laysFinal ST ST "value" "[B", .fieldLink ST 9 ST "value" "[B", .laysFinal ST ST "coder" "B", .fieldLink ST 15 ST "coder" "B",
  .methodLink ST 1 Lib.objectInit, .instanceMethod Lib.objectInit, .code Lib.objectInit ⟨#[0xb1]⟩ 1 none, .methodLink ST 177 Cmp3.yN, .static Cmp3.yN, .methodLink ST 47 CodL.yN, .static CodL.yN,
  .code Cmp3.yN Cmp3.yB 6 (some (.array .byte)), .initialized U16, .arrayClass .byte, .methodLink U16 115 Cmp5.yN, .static Cmp5.yN, .code Cmp5.yN Cmp5.yB 7 (some .int), .code CodL.yN CodL.yB 2 (some .byte)]
end StrChars.Road
namespace StrChars
open Jvm Sem ClassFile Op Lib Jvm.Stand Jvm.Free.XT Jvm.Free.ALB Jvm.Free.JM Jvm.Free
open Jvm.Lib.Cold (StaticIs)
def hi8 (x : Int32) : Int32 := lo8 (x >>> ((8 : Int32) &&& 31))
/-- what StringUTF16.getChar makes of two bytes -/
def pairCh (u v : Int32) : Int32 := (((u &&& 255) <<< ((0 : Int32) &&& 31)) ||| ((v &&& 255) <<< ((8 : Int32) &&& 31))).toUInt32.toUInt16.toUInt32.toInt32
theorem shr0 (c : Int32) : c >>> ((0 : Int32) &&& 31) = c := by
  have e : ((0 : Int32) &&& 31) = 0 := by decide
  rw [e]
  apply Int32.toBitVec_inj.mp
  rw [Int32.toBitVec_shiftRight]
  have e1 : ((0 : Int32).toBitVec.smod 32) = 0#32 := by decide
  rw [e1, BitVec.sshiftRight_eq']
  exact BitVec.sshiftRight_zero
theorem lo8_and (x : Int32) : (lo8 x &&& 255).toBitVec.toNat = x.toBitVec.toNat % 256 := by
  have h : (lo8 x).toBitVec = (x.toBitVec.signExtend 8).signExtend 32 := by rw [lo8, Int8.toBitVec_toInt32, Int32.toBitVec_toInt8]
  rw [Int32.toBitVec_and, BitVec.toNat_and, h]
  have e : ((x.toBitVec.signExtend 8).signExtend 32).toNat % 256 = x.toBitVec.toNat % 256 := by
    rw [BitVec.toNat_signExtend]
    have hlt := x.toBitVec.isLt
    simp only [BitVec.toNat_setWidth, BitVec.toNat_signExtend]
    split <;> split <;> omega
  rw [← e]
  exact Nat.and_two_pow_sub_one_eq_mod _ 8
theorem pair_says {c : Int32} (h0 : ¬ c < 0) (h1 : ¬ 65535 < c) : pairCh (lo8 c) (hi8 c) = c := by
  rw [Int32.lt_iff_toInt_lt] at h0 h1
  have e0 : (0 : Int32).toInt = 0 := rfl
  have e1 : (65535 : Int32).toInt = 65535 := rfl
  have hc : c.toInt = c.toBitVec.toNat := by
    have := c.toBitVec.isLt
    have e : c.toInt = c.toBitVec.toInt := rfl
    rw [e] at h0 h1
    rw [e]
    rw [BitVec.toInt_eq_toNat_cond] at h0 h1 ⊢
    split at h0 <;> split <;> omega
  have hn : c.toBitVec.toNat < 65536 := by omega
  have a1 := lo8_and c
  have a2 : (hi8 c &&& 255).toBitVec.toNat = c.toBitVec.toNat / 256 := by
    rw [hi8, lo8_and]
    have e : ((8 : Int32) &&& 31) = 8 := by decide
    rw [e, Int32.toBitVec_shiftRight]
    have e2 : ((8 : Int32).toBitVec.smod 32) = 8#32 := by decide
    rw [e2, BitVec.sshiftRight_eq', BitVec.toNat_sshiftRight_of_msb_false (by rw [BitVec.msb_eq_false_iff_two_mul_lt]; omega)]
    show c.toBitVec.toNat >>> 8 % 256 = _
    rw [Nat.shiftRight_eq_div_pow]
    omega
  unfold pairCh
  apply Int32.toBitVec_inj.mp
  apply BitVec.eq_of_toNat_eq
  have f0 : ((0 : Int32) &&& 31) = 0 := by decide
  have f8 : ((8 : Int32) &&& 31) = 8 := by decide
  rw [f0, f8]
  have g : (((lo8 c &&& 255) <<< (0 : Int32)) ||| ((hi8 c &&& 255) <<< (8 : Int32))).toBitVec.toNat = c.toBitVec.toNat := by
    rw [Int32.toBitVec_or, Int32.toBitVec_shiftLeft, Int32.toBitVec_shiftLeft]
    have s0 : ((0 : Int32).toBitVec.smod 32) = 0#32 := by decide
    have s8 : ((8 : Int32).toBitVec.smod 32) = 8#32 := by decide
    rw [s0, s8, BitVec.toNat_or]
    simp only [BitVec.shiftLeft_eq', BitVec.toNat_shiftLeft, a1, a2]
    show (c.toBitVec.toNat % 256) <<< 0 % 2 ^ 32 ||| (c.toBitVec.toNat / 256) <<< 8 % 2 ^ 32 = _
    rw [Nat.shiftLeft_zero, Nat.mod_eq_of_lt (show c.toBitVec.toNat % 256 < 2 ^ 32 by omega), Nat.mod_eq_of_lt (show (c.toBitVec.toNat / 256) <<< 8 < 2 ^ 32 by rw [Nat.shiftLeft_eq]; omega), Nat.or_comm, ← Nat.shiftLeft_add_eq_or_of_lt (by omega), Nat.shiftLeft_eq]
    omega
  show BitVec.toNat (((((lo8 c &&& 255) <<< (0 : Int32)) ||| ((hi8 c &&& 255) <<< (8 : Int32))).toBitVec.setWidth 16).setWidth 32) = _
  rw [BitVec.toNat_setWidth, BitVec.toNat_setWidth, g]
  omega
end StrChars
namespace StrChars
open Jvm Sem ClassFile Op Lib Jvm.Stand Jvm.Free.XT Jvm.Free.ALB Jvm.Free.JM Jvm.Free
open Jvm.Lib.Cold (StaticIs)
theorem shr1 {n : Nat} (h : 2 * n < 2 ^ 31) : Int32.ofNat (2 * n) >>> ((1 : Int32) &&& 31) = Int32.ofNat n := by
  have e : ((1 : Int32) &&& 31) = 1 := by decide
  rw [e]
  apply Int32.toBitVec_inj.mp
  rw [Int32.toBitVec_shiftRight]
  have e1 : ((1 : Int32).toBitVec.smod 32) = 1#32 := by decide
  have hm : (BitVec.ofNat 32 (2 * n)).toNat = 2 * n := by rw [BitVec.toNat_ofNat, Nat.mod_eq_of_lt (by omega)]
  rw [e1, BitVec.sshiftRight_eq']
  apply BitVec.eq_of_toNat_eq
  show ((BitVec.ofNat 32 (2 * n)).sshiftRight 1).toNat = (BitVec.ofNat 32 n).toNat
  rw [BitVec.toNat_sshiftRight_of_msb_false (by rw [BitVec.msb_eq_false_iff_two_mul_lt, hm]; omega), hm, BitVec.toNat_ofNat, Nat.shiftRight_eq_div_pow]
  omega
/-- charAt's cast of a byte read back -/
def chr8 (u : Int32) : Int32 := (u &&& 255).toUInt32.toUInt16.toUInt32.toInt32
theorem chr8_lo8 {c : Int32} (h0 : ¬ c < 0) (h1 : ¬ 255 < c) : chr8 (lo8 c) = c := by
  have t : ∀ k : Fin 256, (Int32.ofNat k.val).toUInt32.toUInt16.toUInt32.toInt32 = Int32.ofNat k.val := by decide +kernel
  unfold chr8
  rw [lo8_mask h0 h1]
  rw [Int32.lt_iff_toInt_lt] at h0 h1
  have e0 : (0 : Int32).toInt = 0 := rfl
  have e1 : (255 : Int32).toInt = 255 := rfl
  obtain ⟨k, hk⟩ : ∃ k : Nat, c.toInt = k := ⟨c.toInt.toNat, by omega⟩
  have hx : c = Int32.ofNat k := Int32.toInt_inj.mp (by rw [hk, Int32.toInt_ofNat_small (by omega)])
  rw [hx]
  exact t ⟨k, by omega⟩
theorem narrow_ch {c : Int32} (h0 : ¬ c < 0) (h1 : ¬ 65535 < c) : narrow .char (.int c) = .int c := by
  have q : narrow .char (.int (pairCh (lo8 c) (hi8 c))) = .int (pairCh (lo8 c) (hi8 c)) := narrow_c _
  rwa [pair_says h0 h1] at q
/-- the array's cell V codes the n chars f 0 .. f (n - 1) by the coder cd, as the JDK does: coder 1 just where some char is above 255 -/
def Cod (cd : Int32) (n : Nat) (f : Nat → Int32) (V : Cell) : Prop := (cd = 0 ∧ V.slots.size = n ∧ ∀ j, j < n → V.slots[j]? = some (.int (lo8 (f j))) ∧ ¬ 255 < f j) ∨ (cd = 1 ∧ V.slots.size = 2 * n ∧ (∀ j, j < n → V.slots[2 * j]? = some (.int (lo8 (f j))) ∧ V.slots[2 * j + 1]? = some (.int (hi8 (f j)))) ∧ ∃ j, j < n ∧ 255 < f j)
theorem Cod.cd {cd : Int32} {n : Nat} {f : Nat → Int32} {V : Cell} (h : Cod cd n f V) : cd = 0 ∨ cd = 1 := h.imp (fun q => q.1) fun q => q.1
theorem Cod.len {cd : Int32} {n : Nat} {f : Nat → Int32} {V : Cell} (h : Cod cd n f V) (hs : V.slots.size < 2 ^ 31) : Int32.ofNat V.slots.size >>> (cd &&& 31) = Int32.ofNat n := by
  rcases h with ⟨rfl, h, -⟩ | ⟨rfl, h, -⟩
  · rw [shr0, h]
  · rw [h, shr1 (by omega)]
/-- **x is a String of the n chars f 0 .. f (n - 1)**, Latin-1 or UTF-16; its array at t has the cell V -/
def Txt (x t : Addr) (V : Cell) (cd : Int32) (n : Nat) (f : Nat → Int32) (U : State) : Prop := Exact "java/lang/String" x U ∧ Has x "java/lang/String" "value" "[B" (.ref t) U ∧ Has x "java/lang/String" "coder" "B" (.int cd) U ∧ XT.Arr .byte t V U ∧ Cod cd n f V ∧ ∀ j, j < n → ¬ f j < 0 ∧ ¬ 65535 < f j
theorem Txt.mv {x t : Addr} {V : Cell} {cd : Int32} {n : Nat} {f : Nat → Int32} {U U' : State} (h : Txt x t V cd n f U) (hal : U.vm.Alike U'.vm) (hh : U'.heap = U.heap) : Txt x t V cd n f U' := ⟨h.1.mv hal hh, h.2.1.mv hal hh, h.2.2.1.mv hal hh, h.2.2.2.1.mv hal hh, h.2.2.2.2⟩
namespace Cdr
def yN : MethodName := ⟨"java/lang/String", "coder", "()B"⟩
abbrev yB : ByteArray := jdk_42_method_152_code
theorem d0 : decode yB 0 = .ok (.getstatic 38, 3) := by decide +kernel
theorem d3 : decode yB 3 = .ok (.ifCond (.eq) 10, 3) := by decide +kernel
theorem d6 : decode yB 6 = .ok (.aload_n 0, 1) := by decide +kernel
theorem d7 : decode yB 7 = .ok (.getfield 15, 3) := by decide +kernel
theorem d10 : decode yB 10 = .ok (.goto 4, 3) := by decide +kernel
theorem d14 : decode yB 14 = .ok (.ireturn, 1) := by decide +kernel
def site : List Cond := [.fieldLink "java/lang/String" 38 "java/lang/String" "COMPACT_STRINGS" "Z", .fieldLink "java/lang/String" 15 "java/lang/String" "coder" "B"]
def tab : Cond := tabOf yN yB 1 (some .byte) site
def P (x : Addr) (cd z : Int32) (args : Array Value) (s : State) : Prop := args = #[.ref x] ∧ Has x "java/lang/String" "coder" "B" (.int cd) s ∧ (cd = 0 ∨ cd = 1) ∧ StaticIs s "java/lang/String" "COMPACT_STRINGS" "Z" (.int z) ∧ ¬ z = 0
def E (cd : Int32) (r : Option Value) (s u : State) : Prop := XT.PureE (some (.int cd)) r s u
theorem law (l : Launch) (x : Addr) (cd z : Int32) : Law l yN 1 0 0 0 yB 1 (some .byte) site (P x cd z) (E cd) [] 0 0 := by
  refine Law.of_walk (plainFor_of_name (by decide +kernel)) (by decide +kernel) (by decide +kernel) (by decide) (fun _ _ h => by rw [h.1]; rfl) (fun _ U U' hal hh h => ⟨h.1, h.2.1.mv hal hh, h.2.2.1, h.2.2.2.1.there hal hh, h.2.2.2.2⟩) (fun r U U' V V' h1 hal h2 h => XT.PureE.mv r U U' V V' h1 hal h2 h) ?_
  intro p e s m args below meth c s₁ X0 hexec hbytes hml hret hlk hnm hown hh0 W hP
  obtain ⟨rfl, hx, hc, s1, hz⟩ := hP
  have c1 : Steps p.tables e below (s₁.setTop (entryFrame m #[.ref x] 1)) (s₁.setTop (mkF m 0 #[.val (.ref x)] [])) := entry rfl
  obtain ⟨T2, X2, q2, st2⟩ := X0.sget hexec hown (wk W (.fieldLink "java/lang/String" 38 "java/lang/String" "COMPACT_STRINGS" "Z")) s1 (fun _ _ h => by rw [hh0]; exact h) (g := (mkF m 0 #[.val (.ref x)] [])) rfl (hb hbytes d0)
  have hh2 := q2.trans hh0
  have c3 : Steps p.tables e below (s₁.setTop (entryFrame m #[.ref x] 1)) (T2.setTop (mkF m 7 #[.val (.ref x)] [.ref x])) := (c1.trans (st2 _ (Steps.refl _))).trans (by
    refine XS.ifNo X2.here hexec rfl (hb hbytes d3) rfl (i0_eq_f hz) ?_
    refine XS.aloadN X2.here hexec rfl (hb hbytes d6) rfl rfl ?_
    exact Steps.refl _)
  obtain ⟨T4, X4, q4, st4⟩ := X2.hget hexec hown (wk W (.fieldLink "java/lang/String" 15 "java/lang/String" "coder" "B")) (hx.mv X2.warmed.alike hh2) (g := (mkF m 7 #[.val (.ref x)] [.ref x])) rfl (rest := []) rfl (hb hbytes d7)
  have c5 : Steps p.tables e below (s₁.setTop (entryFrame m #[.ref x] 1)) (T4.setTop (mkF m 14 #[.val (.ref x)] [.int cd])) := (c3.trans (st4 _ (Steps.refl _))).trans (by
    refine XS.goto X4.here hexec rfl (pc0 := 10) rfl (hb hbytes d10) (by decide) rfl ?_
    exact Steps.refl _)
  exact ⟨T4, some (.int cd), _, _, _, X4, rfl, rfl, rfl, (fun h => by cases h), ⟨rfl, q4.trans hh2⟩, fun fs hl => c5.trans (X4.ireturnOut hexec hret (by rcases hc with rfl | rfl <;> rfl) (Or.inr (Or.inr (Or.inl rfl))) (hb hbytes d14) hl)⟩
end Cdr
namespace Len
def yN : MethodName := ⟨"java/lang/String", "length", "()I"⟩
abbrev yB : ByteArray := jdk_42_method_54_code
theorem d0 : decode yB 0 = .ok (.aload_n 0, 1) := by decide +kernel
theorem d1 : decode yB 1 = .ok (.getfield 9, 3) := by decide +kernel
theorem d4 : decode yB 4 = .ok (.arraylength, 1) := by decide +kernel
theorem d5 : decode yB 5 = .ok (.aload_n 0, 1) := by decide +kernel
theorem d6 : decode yB 6 = .ok (.invokevirtual 335, 3) := by decide +kernel
theorem d9 : decode yB 9 = .ok (.ishr, 1) := by decide +kernel
theorem d10 : decode yB 10 = .ok (.ireturn, 1) := by decide +kernel
def site : List Cond := [.fieldLink "java/lang/String" 9 "java/lang/String" "value" "[B", Cdr.tab] ++ virtW "java/lang/String" 335 "java/lang/String" Cdr.yN Cdr.yN
def tab : Cond := tabOf yN yB 1 (some .int) site
def P (x t : Addr) (V : Cell) (cd : Int32) (n : Nat) (f : Nat → Int32) (z : Int32) (args : Array Value) (s : State) : Prop := args = #[.ref x] ∧ Txt x t V cd n f s ∧ StaticIs s "java/lang/String" "COMPACT_STRINGS" "Z" (.int z) ∧ ¬ z = 0
def E (n : Nat) (r : Option Value) (s u : State) : Prop := XT.PureE (some (.int (Int32.ofNat n))) r s u
/-- length() of a String of n chars, in either coding -/
theorem law (l : Launch) (x t : Addr) (V : Cell) (cd : Int32) (n : Nat) (f : Nat → Int32) (z : Int32) : Law l yN 1 0 1 13 yB 1 (some .int) site (P x t V cd n f z) (E n) [] 0 0 := by
  refine Law.of_walk (plainFor_of_name (by decide +kernel)) (by decide +kernel) (by decide +kernel) (by decide) (fun _ _ h => by rw [h.1]; rfl) (fun _ U U' hal hh h => ⟨h.1, h.2.1.mv hal hh, h.2.2.1.there hal hh, h.2.2.2⟩) (fun r U U' V V' h1 hal h2 h => XT.PureE.mv r U U' V V' h1 hal h2 h) ?_
  intro p e s m args below meth c s₁ X0 hexec hbytes hml hret hlk hnm hown hh0 W hP
  obtain ⟨rfl, hx, s1, hz⟩ := hP
  have v31 := hx.2.2.2.1.2.2.2
  have c1 : Steps p.tables e below (s₁.setTop (entryFrame m #[.ref x] 1)) (s₁.setTop (mkF m 1 #[.val (.ref x)] [.ref x])) := Steps.trans (entry rfl) (by
    show Steps p.tables e below (s₁.setTop (mkF m 0 #[.val (.ref x)] [])) _
    refine XS.aloadN X0.here hexec rfl (hb hbytes d0) rfl rfl ?_
    exact Steps.refl _)
  obtain ⟨T2, X2, q2, st2⟩ := X0.hget hexec hown (wk W (.fieldLink "java/lang/String" 9 "java/lang/String" "value" "[B")) (hx.mv X0.warmed.alike hh0).2.1 (g := (mkF m 1 #[.val (.ref x)] [.ref x])) rfl (rest := []) rfl (hb hbytes d1)
  have hh2 := q2.trans hh0
  have hx2 := hx.mv X2.warmed.alike hh2
  have c3 : Steps p.tables e below (s₁.setTop (entryFrame m #[.ref x] 1)) (T2.setTop (mkF m 6 #[.val (.ref x)] [.ref x, .int (Int32.ofNat V.slots.size)])) := (c1.trans (st2 _ (Steps.refl _))).trans (by
    refine X2.alen hexec hx2.2.2.2.1 rfl rfl (hb hbytes d4) ?_
    refine XS.aloadN X2.here hexec rfl (hb hbytes d5) rfl rfl ?_
    exact Steps.refl _)
  obtain ⟨v4, T4, X4, E4, g4⟩ := X2.callV hexec (Cdr.law l x cd z) hown (wks W (virtW "java/lang/String" 335 "java/lang/String" Cdr.yN Cdr.yN)) rfl (by decide) (wk W Cdr.tab) (W := 1) (Nat.le_of_ble_eq_true rfl) (Nat.le_of_ble_eq_true rfl) (Nat.le_refl _) (Nat.le_refl _) (hx2.1.fc X2.warmed.alike) hx2.1.is (g := (mkF m 6 #[.val (.ref x)] [.ref x, .int (Int32.ofNat V.slots.size)])) rfl (by rw [hml]; rfl) c3 (argsL := []) (rest := [.int (Int32.ofNat V.slots.size)]) rfl rfl (by show 2 * 0 + (1 + 0) ≤ _; decide) (hb hbytes d6) (⟨rfl, hx2.2.2.1, hx.2.2.2.2.1.cd, s1.there X2.warmed.alike hh2, hz⟩)
  obtain ⟨rfl, q4⟩ := E4
  have c5 : Steps p.tables e below (s₁.setTop (entryFrame m #[.ref x] 1)) (T4.setTop (mkF m 10 #[.val (.ref x)] [.int (Int32.ofNat V.slots.size >>> (cd &&& 31))])) := Steps.trans g4 (by
    refine ishr X4.here hexec rfl (hb hbytes d9) rfl ?_
    exact Steps.refl _)
  rw [hx.2.2.2.2.1.len v31] at c5
  exact ⟨T4, some (.int (Int32.ofNat n)), _, _, _, X4, rfl, rfl, rfl, (fun h => by cases h), ⟨rfl, q4.trans hh2⟩, fun fs hl => c5.trans (X4.ireturnOut hexec hret rfl (Or.inl rfl) (hb hbytes d10) hl)⟩
theorem pays {l : Launch} {R : Room} {p : Program} {e : Env} {below : List Frame} {s : State} {sargs : Array Value} {len W : Nat} (x t : Addr) (V : Cell) (cd : Int32) (n : Nat) (f : Nat → Int32) (z : Int32) (htab : tab.before sargs s = true) (hfr : 2 ≤ R.frames) (hlo : W + 25 ≤ R.locals) :
    Back l R p e below s sargs yN len W (fun A₁ a₁ => A₁.cells + 0 ≤ R.cells ∧ A₁.slots + 0 ≤ R.slots ∧ P x t V cd n f z a₁ A₁.U) (fun A₁ _ v₁ B₁ => E n v₁ A₁.U B₁.U ∧ B₁.locs = A₁.locs ++ [] ∧ B₁.cells = A₁.cells + 0 ∧ B₁.slots = A₁.slots + 0) :=
  (law l x t V cd n f z).pays htab hfr (by omega)
end Len
end StrChars
namespace StrChars.Road
open Jvm Sem ClassFile Op Lib Jvm.Stand Jvm.Free Jvm.Free.XT
open Jvm.Lib.Cold (StaticIs)
theorem consq {a : Array Value} {s : State} {c : Jvm.Cond} {L : List Jvm.Cond} (h0 : c.before a s = true) (h : ∀ w ∈ L, w.before a s = true) : ∀ w ∈ c :: L, w.before a s = true := fun w hw => (List.mem_cons.mp hw).elim (fun e => e ▸ h0) (h w)
/-- the words of String.length(), either coding -/
abbrev wordsLen : List Jvm.Cond := [.code Len.yN Len.yB 1 (some .int), .initialized ST, .fieldLink ST 9 ST "value" "[B", .fieldLink ST 38 ST "COMPACT_STRINGS" "Z", .fieldLink ST 15 ST "coder" "B", .code Cdr.yN Cdr.yB 1 (some .byte), .methodLink ST 335 Cdr.yN, .declares Cdr.yN, .selects ST Cdr.yN Cdr.yN, .instanceMethod Cdr.yN]
theorem tabLen_of {a : Array Value} {s : State} (h : ∀ w ∈ wordsLen, w.before a s = true) : Len.tab.before a s = true := by
  have hc : Cdr.tab.before a s = true := unparts (wk h (.code Cdr.yN Cdr.yB 1 (some .byte))) (wks h (.initialized Cdr.yN.cls :: Cdr.site))
  have q := consq hc h
  exact unparts (wk q (.code Len.yN Len.yB 1 (some .int))) (wks q (.initialized Len.yN.cls :: Len.site))
theorem movedLen {Z s : State} {a0 args : Array Value} (hZ : Z.Warmed39 s.vm) (hw : ∀ d ∈ wordsLen, d.before a0 Z = true) : ∀ d ∈ wordsLen, d.before args s = true := fun d hd => by
  have q := hw d hd
  have t : ∀ d ∈ wordsLen, d = .arrayClass .byte ∨ (d.onTables && d.keepsFace) = true := by decide +kernel
  rcases t d hd with rfl | t
  · exact RoadKit.mvA hZ q
  · exact RoadKit.mv hZ q t
/-- the bytes of the chars cs, low before high -/
def wideBytes : List Int32 → List Value
  | [] => []
  | c :: cs => .int (lo8 c) :: .int (hi8 c) :: wideBytes cs
theorem wide_lo (d : Value) : ∀ (cs : List Int32) (j : Nat), j < cs.length → (wideBytes cs).getD (2 * j) d = .int (lo8 (cs.getD j 0))
  | [], j, h => absurd h (Nat.not_lt_zero j)
  | c :: cs, 0, _ => rfl
  | c :: cs, j + 1, h => by
    have q := wide_lo d cs j (by simpa using h)
    rw [show 2 * (j + 1) = 2 * j + 1 + 1 from by omega]
    simpa [wideBytes] using q
theorem wide_hi (d : Value) : ∀ (cs : List Int32) (j : Nat), j < cs.length → (wideBytes cs).getD (2 * j + 1) d = .int (hi8 (cs.getD j 0))
  | [], j, h => absurd h (Nat.not_lt_zero j)
  | c :: cs, 0, _ => rfl
  | c :: cs, j + 1, h => by
    have q := wide_hi d cs j (by simpa using h)
    rw [show 2 * (j + 1) + 1 = 2 * j + 1 + 1 + 1 from by omega]
    simpa [wideBytes] using q
theorem low_at (d : Value) (cs : List Int32) (j : Nat) (h : j < cs.length) : (cs.map fun c => Value.int (lo8 c)).getD j d = .int (lo8 (cs.getD j 0)) := by
  simp [List.getD_eq_getElem?_getD, h]
/-- an array of N2 bytes vs codes the chars cs by the coder cd -/
def CodA (cs : List Int32) (cd N2 : Int32) (vs : List Value) : Prop := (cd = 0 ∧ N2 = Int32.ofNat cs.length ∧ vs = (cs.map fun c => Value.int (lo8 c)) ∧ ∀ c ∈ cs, ¬ 255 < c) ∨ (cd = 1 ∧ N2 = Int32.ofNat (2 * cs.length) ∧ vs = wideBytes cs ∧ ∃ c ∈ cs, 255 < c)
theorem CodA.cod {cs : List Int32} {cd N2 : Int32} {vs : List Value} {V : Cell} (h : CodA cs cd N2 vs) (hn : 2 * cs.length < 2 ^ 31) (hs : V.slots.size = N2.toNatClampNeg) (hv : RoadKit.Has V vs (.int 0)) : Cod cd cs.length (fun j => cs.getD j 0) V := by
  rcases h with ⟨rfl, rfl, rfl, h⟩ | ⟨rfl, rfl, rfl, c, hc, hw⟩
  · rw [n32 (by omega)] at hs
    exact Or.inl ⟨rfl, hs, fun j hj => ⟨by rw [hv j (by omega), low_at _ _ _ hj], by
      have e : cs.getD j 0 = cs[j] := by simp [List.getD_eq_getElem?_getD, hj]
      show ¬ 255 < cs.getD j 0
      rw [e]; exact h _ (List.getElem_mem _)⟩⟩
  · rw [n32 (by omega)] at hs
    obtain ⟨j, hj, rfl⟩ := List.getElem_of_mem hc
    exact Or.inr ⟨rfl, hs, fun j hj => ⟨by rw [hv _ (by omega), wide_lo _ _ _ hj], by rw [hv _ (by omega), wide_hi _ _ _ hj]⟩, j, hj, by
      have e : cs.getD j 0 = cs[j] := by simp [List.getD_eq_getElem?_getD, hj]
      show 255 < cs.getD j 0
      rw [e]; exact hw⟩
/-- an object of exactly java/lang/String, its two fields found: as the laws ask it -/
theorem strObj {Z U : State} {a0 : Array Value} {kI : Nat} (wi : (Jvm.Cond.instantiable ST kI).before a0 Z = true) (al : Z.vm.Alike U.vm) {x : Addr} {v0 c0 : Value} (E : RoadKit.Exa Z U.heap x ST) (V : RoadKit.Fld Z U.heap x ST "value" "[B" v0) (C : RoadKit.Fld Z U.heap x ST "coder" "B" c0) :
    ∃ (D : Cell) (fV fC : Field), Blank ST x D U ∧ Found ST "value" "[B" fV U ∧ Found ST "coder" "B" fC U ∧ D.slots[fV.slot]? = some v0 ∧ D.slots[fC.slot]? = some c0 ∧ RoadKit.slotOf Z ST "value" "[B" = fV.slot ∧ RoadKit.slotOf Z ST "coder" "B" = fC.slot := by
  obtain ⟨D, cfV, kV, iV, fV, hD, gV, stV, knV, obV, asV, slV⟩ := V
  obtain ⟨D', cfC, kC, iC, fC, hD', gC, stC, -, -, asC, slC⟩ := C
  cases hD.symm.trans hD'
  obtain ⟨D2, kD, e1, e2, e3, e4, e5⟩ := E
  cases hD.symm.trans e1
  obtain ⟨c2, k2, i1, i2, i3, -⟩ := Cond.instantiable_spec wi
  cases e2.symm.trans i1
  cases e3.symm.trans i2
  obtain ⟨kU, u1, u2⟩ := al.2.2 _ _ e3
  exact ⟨D, fV, fC, ⟨hD, ⟨knV, fun q hq => by rw [hq] at obV; cases obV⟩, by rw [al.findClass]; exact e2, kU, u1, by rw [u2]; exact i3, by rw [u2]; exact e5 i3⟩, ⟨SBG.found_only al ⟨cfV, kV, iV, gV⟩, stV⟩, ⟨SBG.found_only al ⟨cfC, kC, iC, gC⟩, stC⟩, slV, slC, by simp [RoadKit.slotOf, gV], by simp [RoadKit.slotOf, gC]⟩
theorem sta_is {Z U : State} (al : Z.vm.Alike U.vm) {C n d : String} {v : Value} (S : RoadKit.Sta Z U.heap C n d v) : StaticIs U C n d v := by
  obtain ⟨cfS, iS, kS, fS, st, cS, t1, t2, t3, t4, t5, t6, t7⟩ := S
  exact StaticIs.there (s := { Z with heap := U.heap }) ⟨cfS, iS, kS, fS, st, cS, t1, t2, t3, t4, t5, (fun q => by rw [q] at t6; cases t6), t7⟩ al rfl
/-- **length() OF SUCH A STRING** -/
theorem lenW {p : Program} {l : Launch} {e : Env} {R : Room} {s : State} {args : Array Value} {below : List Frame} {len W : Nat} {Z : State} {a0 : Array Value} {h : Heap} (hZ : Z.Warmed39 s.vm) (hw : ∀ d ∈ wordsLen, d.before a0 Z = true) {kI : Nat} (wi : (Jvm.Cond.instantiable ST kI).before a0 Z = true)
    {x t : Addr} {kb : ClassId} {cs : List Int32} {cd N2 z : Int32} {vs : List Value} (E : RoadKit.Exa Z h x ST) (V : RoadKit.Fld Z h x ST "value" "[B" (.ref t)) (C : RoadKit.Fld Z h x ST "coder" "B" (.int cd)) (K : RoadKit.Arv Z h t kb .byte N2 vs (.int 0)) (hc : CodA cs cd N2 vs) (hb : ∀ c ∈ cs, ¬ c < 0 ∧ ¬ (65535 : Int32) < c)
    (S : RoadKit.Sta Z h ST "COMPACT_STRINGS" "Z" (.int z)) (hz : ¬ z = 0) (l2 : cs.length ≤ 4000) (hfr : 2 ≤ R.frames) (hlo : W + 25 ≤ R.locals) :
    Back l R p e below s args (⟨"java/lang/String", "length", "()I"⟩ : MethodName) len W (fun P a => a = #[.ref x] ∧ P.U.heap = h ∧ P.cells + 0 ≤ R.cells ∧ P.slots + 0 ≤ R.slots)
      (fun P _ v B => ∃ L, (v = some (.int (Int32.ofNat cs.length)) ∧ L = [] ∧ B.U.heap = h) ∧ B.locs = P.locs ++ L ∧ B.cells = P.cells + 0 ∧ B.slots = P.slots + 0) := by
  obtain ⟨A, K1, K2, K3, K4, K5, K6⟩ := K
  have hcod := hc.cod (by omega) K3 K5
  intro m meth c P g ig mk a X hg hsize hdg hW hn hp'
  obtain ⟨rfl, rfl, r1, r2⟩ := hp'
  have al : Z.vm.Alike P.U.vm := hZ.alike.trans X.warmed.alike
  obtain ⟨D, fV, fC, hB, F1, F2, g1, g2, -, -⟩ := strObj wi al E V C
  have hx : Txt x t A cd cs.length (fun j => cs.getD j 0) P.U := ⟨⟨_, hB.2.2.1, D, hB.1, rfl, by cases q : D.vm <;> first | rfl | exact absurd q (hB.2.1.2 _)⟩, Has.of hB F1 g1, Has.of hB F2 g2, ⟨K1.1, State.isArrayOf_alike al K1.2.1, K1.2.2, by rcases hcod with ⟨-, q, -⟩ | ⟨-, q, -⟩ <;> omega⟩, hcod, fun j hj => by
    have e : cs.getD j 0 = cs[j] := by simp [List.getD_eq_getElem?_getD, hj]
    show ¬ cs.getD j 0 < 0 ∧ ¬ 65535 < cs.getD j 0
    rw [e]; exact hb _ (List.getElem_mem _)⟩
  obtain ⟨v, B, X', ⟨⟨hv, hh⟩, hl, hk, hs⟩, st⟩ := Len.pays x t A cd cs.length (fun j => cs.getD j 0) z (tabLen_of (movedLen hZ hw)) hfr hlo m meth c P g ig mk _ X hg hsize hdg hW hn ⟨r1, r2, rfl, hx, sta_is al S, hz⟩
  exact ⟨v, B, X', ⟨[], ⟨hv, rfl, hh⟩, hl, hk, hs⟩, st⟩
end StrChars.Road
end Jvm.Pilot.@@N@@
namespace Jvm.Pilot.@@N@@
open Jvm Jvm.ClassFile Sem Op Lib Jvm.Free Jvm.Stand Jvm.LawKit Jvm.RoadKit Bundle Jvm.Pilot.@@N@@.Jvm.D
theorem w_ {Z : State} {a0 : Array Value} (hw : ∀ d ∈ tables_1, d.before a0 Z = true) {d : Jvm.Cond} (i : Nat) (h : tables_1[i]? = some d) : d.before a0 Z = true := hw d (List.mem_of_getElem? h)
section OwnKit
variable {p : Program} {l : Launch} {e : Env} {R : Room} {s : State} {m : MethodId} {args : Array Value} {below : List Frame} {meth : Method} {c : Code} {T : State} {locs : List Loc} {cells slots : Nat}
/-- the walk from t comes back with what Q says -/
def Fin (p : Program) (e : Env) (below : List Frame) (s : State) (Q : Option Value → Heap → List Loc → Prop) (C S : Nat) (t : State) : Prop :=
  ∃ s₂ o, Steps p.tables e below t s₂ ∧ s₂.status = .running ∧ Ended s₂ below o ∧ ∃ v L, o = .returned v ∧ Q v s₂.heap L ∧ FrameEnd s o s₂ L C S
theorem Fin.by {Q : Option Value → Heap → List Loc → Prop} {C S : Nat} {a b : State} (h : ∀ t, Steps p.tables e below b t → Steps p.tables e below a t) (k : Fin p e below s Q C S b) : Fin p e below s Q C S a := by
  obtain ⟨s₂, o, h1, h2⟩ := k; exact ⟨s₂, o, h _ h1, h2⟩
theorem Fin.byS {Q : Option Value → Heap → List Loc → Prop} {C S : Nat} {a b : State} (h : Steps p.tables e below a b) (k : Fin p e below s Q C S b) : Fin p e below s Q C S a := Fin.by (fun _ k => h.trans k) k
theorem Fin.start {Q : Option Value → Heap → List Loc → Prop} {C S : Nat} {g g' : JFrame} (q : g = g') (k : Fin p e below s Q C S (T.setTop g')) :
    ∃ s₂ o, Steps p.tables e below (T.setTop g) s₂ ∧ s₂.status = .running ∧ Ended s₂ below o ∧ ∃ v L, o = .returned v ∧ Q v s₂.heap L ∧ FrameEnd s o s₂ L C S := by
  subst q; exact k
theorem Fin.ret {Q : Option Value → Heap → List Loc → Prop} {C S : Nat} {v : Option Value} {g : JFrame} (X : Stand p l e R s m args below meth c T locs cells slots) (hv : meth.sig.returnType = none → v = none) (hl : meth.locks = false)
    (hq : Q v T.heap locs) (hc : cells ≤ C) (hs : slots ≤ S) (st : ∀ fs, (∀ (f : JFrame) (acts : List Action), f.method = m → f.locked = none → f.entered = [] → (doReturn e (T.setTop f) acts v).1 = T.setFrames fs) → Steps p.tables e below (T.setTop g) (T.setFrames fs)) :
    Fin p e below s Q C S (T.setTop g) := by
  obtain ⟨fs, hr, hrun, hended, hW, hsame⟩ := X.leave hv hl
  exact ⟨_, _, st fs hr, hrun, hended, _, _, rfl, hq, ⟨_, rfl⟩, hW, hsame.mono hc hs⟩
theorem retI (X : Stand p l e R s m args below meth c T locs cells slots) (hx : p.tables.exec = Jvm.exec) {pc : Nat} {Ls : Array Slot} {z : Int32} {rest : List Value} (hret : meth.sig.returnType = some .int) (hd : decode c.code pc = .ok (.ireturn, 1)) {fs : List Frame}
    (hl : ∀ (f : JFrame) (acts : List Action), f.method = m → f.locked = none → f.entered = [] → (doReturn e (T.setTop f) acts (some (.int z))).1 = T.setFrames fs) : Steps p.tables e below (T.setTop (mkF m pc Ls (.int z :: rest))) (T.setFrames fs) :=
  retOut X hx hret rfl (Or.inl ⟨rfl, Or.inl rfl, _, rfl⟩) hd hl
theorem retA (X : Stand p l e R s m args below meth c T locs cells slots) (hx : p.tables.exec = Jvm.exec) {pc : Nat} {Ls : Array Slot} {w : Value} {t : FieldType} {rest : List Value} (hret : meth.sig.returnType = some t) (ht : t.isReference = true) (hw : w.isRef = true) (hd : decode c.code pc = .ok (.areturn, 1)) {fs : List Frame}
    (hl : ∀ (f : JFrame) (acts : List Action), f.method = m → f.locked = none → f.entered = [] → (doReturn e (T.setTop f) acts (some w)).1 = T.setFrames fs) : Steps p.tables e below (T.setTop (mkF m pc Ls (w :: rest))) (T.setFrames fs) :=
  retOut X hx hret (by cases t <;> first | (cases ht; done) | rfl) (Or.inr (Or.inr (Or.inr (Or.inr ⟨rfl, ht, hw⟩)))) hd hl
theorem retJ (X : Stand p l e R s m args below meth c T locs cells slots) (hx : p.tables.exec = Jvm.exec) {pc : Nat} {Ls : Array Slot} {z : Int64} {rest : List Value} (hret : meth.sig.returnType = some .long) (hd : decode c.code pc = .ok (.lreturn, 1)) {fs : List Frame}
    (hl : ∀ (f : JFrame) (acts : List Action), f.method = m → f.locked = none → f.entered = [] → (doReturn e (T.setTop f) acts (some (.long z))).1 = T.setFrames fs) : Steps p.tables e below (T.setTop (mkF m pc Ls (.long z :: rest))) (T.setFrames fs) :=
  retOut X hx hret rfl (Or.inr (Or.inl ⟨rfl, rfl, _, rfl⟩)) hd hl
theorem XnullYes {target : State} (X : Stand p l e R s m args below meth c T locs cells slots) (hx : p.tables.exec = Jvm.exec) {g : JFrame} (hg : g.method = m) {v : Value} {rest : List Value} {o : Int} {pc0 pc' : Nat} (hv : v = .null) (hpc : g.pc = pc0) (hd : decode c.code g.pc = .ok (.ifnull o, 3)) (hs : g.stack = v :: rest) (ho : 0 ≤ (pc0 : Int) + o) (hp : ((pc0 : Int) + o).toNat = pc')
    (k : Steps p.tables e below (T.setTop { g with pc := pc', stack := rest }) target) : Steps p.tables e below (T.setTop g) target := by subst hv; exact XS.ifnullYes X.here hx hg hpc hd hs ho hp k
theorem XnullNo {target : State} (X : Stand p l e R s m args below meth c T locs cells slots) (hx : p.tables.exec = Jvm.exec) {g : JFrame} (hg : g.method = m) {v : Value} {a : Addr} {rest : List Value} {o : Int} (hv : v = .ref a) (hd : decode c.code g.pc = .ok (.ifnull o, 3)) (hs : g.stack = v :: rest)
    (k : Steps p.tables e below (T.setTop { g with pc := g.pc + 3, stack := rest }) target) : Steps p.tables e below (T.setTop g) target := by subst hv; exact XS.ifnullNo X.here hx hg hd hs k
theorem XnonnullYes {target : State} (X : Stand p l e R s m args below meth c T locs cells slots) (hx : p.tables.exec = Jvm.exec) {g : JFrame} (hg : g.method = m) {v : Value} {a : Addr} {rest : List Value} {o : Int} {pc0 pc' : Nat} (hv : v = .ref a) (hpc : g.pc = pc0) (hd : decode c.code g.pc = .ok (.ifnonnull o, 3)) (hs : g.stack = v :: rest) (ho : 0 ≤ (pc0 : Int) + o) (hp : ((pc0 : Int) + o).toNat = pc')
    (k : Steps p.tables e below (T.setTop { g with pc := pc', stack := rest }) target) : Steps p.tables e below (T.setTop g) target := by subst hv; exact XS.ifnonnullYes X.here hx hg hpc hd hs ho hp k
theorem XnonnullNo {target : State} (X : Stand p l e R s m args below meth c T locs cells slots) (hx : p.tables.exec = Jvm.exec) {g : JFrame} (hg : g.method = m) {v : Value} {rest : List Value} {o : Int} (hv : v = .null) (hd : decode c.code g.pc = .ok (.ifnonnull o, 3)) (hs : g.stack = v :: rest)
    (k : Steps p.tables e below (T.setTop { g with pc := g.pc + 3, stack := rest }) target) : Steps p.tables e below (T.setTop g) target := by subst hv; exact XS.ifnonnullNo X.here hx hg hd hs k
theorem cat_ref {v : Value} (h : v.isRef = true) : v.category = 1 := by rcases ref_cases h with rfl | ⟨a, rfl⟩ <;> rfl
theorem nar_ref (C : String) {v : Value} (h : v.isRef = true) : narrow (.object C) v = v := rfl
theorem fits_obj {C : String} {v : Value} (h : v.isRef = true) : fits (.object C) v = true := by rcases ref_cases h with rfl | ⟨a, rfl⟩ <;> rfl
def FinW (p : Program) (e : Env) (below : List Frame) (s : State) (Q : Option Value → Heap → List Loc → Prop) (C S : Nat) (t : State) : Prop :=
  ∃ s₂ o, Steps p.tables e below t s₂ ∧ s₂.status = .running ∧ Ended s₂ below o ∧ ∃ v L, o = .returned v ∧ Q v s₂.heap L ∧ ReturnedEndW s o s₂ L C S
theorem FinW.by {Q : Option Value → Heap → List Loc → Prop} {C S : Nat} {a b : State} (h : ∀ t, Steps p.tables e below b t → Steps p.tables e below a t) (k : FinW p e below s Q C S b) : FinW p e below s Q C S a := by
  obtain ⟨s₂, o, h1, h2⟩ := k; exact ⟨s₂, o, h _ h1, h2⟩
theorem FinW.byS {Q : Option Value → Heap → List Loc → Prop} {C S : Nat} {a b : State} (h : Steps p.tables e below a b) (k : FinW p e below s Q C S b) : FinW p e below s Q C S a := FinW.by (fun _ k => h.trans k) k
theorem FinW.start {Q : Option Value → Heap → List Loc → Prop} {C S : Nat} {g g' : JFrame} (q : g = g') (k : FinW p e below s Q C S (T.setTop g')) :
    ∃ s₂ o, Steps p.tables e below (T.setTop g) s₂ ∧ s₂.status = .running ∧ Ended s₂ below o ∧ ∃ v L, o = .returned v ∧ Q v s₂.heap L ∧ ReturnedEndW s o s₂ L C S := by
  subst q; exact k
theorem FinW.ret {Q : Option Value → Heap → List Loc → Prop} {C S : Nat} {v : Option Value} {g : JFrame} {V : Vm} {n : Nat} (X : Stand p l e R (s.setVm V) m args below meth c T locs cells slots) (hS : s.Since V n) (hn : n ≤ T.heap.size) (hv : meth.sig.returnType = none → v = none) (hl : meth.locks = false)
    (hq : Q v T.heap locs) (hc : cells ≤ C) (hs : slots ≤ S) (st : ∀ fs, (∀ (f : JFrame) (acts : List Action), f.method = m → f.locked = none → f.entered = [] → (doReturn e (T.setTop f) acts v).1 = T.setFrames fs) → Steps p.tables e below (T.setTop g) (T.setFrames fs)) :
    FinW p e below s Q C S (T.setTop g) := by
  obtain ⟨fs, hr, hrun, hended, hE⟩ := X.leaveW hS hn hv hl
  exact ⟨_, _, st fs hr, hrun, hended, _, _, rfl, hq, hE.1, hE.2.1, hE.2.2.1, hE.2.2.2.mono hc hs⟩
def FinH (p : Program) (e : Env) (below : List Frame) (Z : State) (EL : List (String × Nat)) (s : State) (Q : Option Value → Heap → List Loc → Prop) (C S : Nat) (t : State) : Prop :=
  ∃ s₂ o, Steps p.tables e below t s₂ ∧ s₂.status = .running ∧ Ended s₂ below o ∧ ∃ v L, o = .returned v ∧ Q v s₂.heap L ∧ CHr Z EL s.vm s.heap s₂.vm s₂.heap ∧ ReturnedEndW s o s₂ L C S
theorem FinH.by {Z : State} {EL : List (String × Nat)} {Q : Option Value → Heap → List Loc → Prop} {C S : Nat} {a b : State} (h : ∀ t, Steps p.tables e below b t → Steps p.tables e below a t) (k : FinH p e below Z EL s Q C S b) : FinH p e below Z EL s Q C S a := by
  obtain ⟨s₂, o, h1, h2⟩ := k; exact ⟨s₂, o, h _ h1, h2⟩
theorem FinH.byS {Z : State} {EL : List (String × Nat)} {Q : Option Value → Heap → List Loc → Prop} {C S : Nat} {a b : State} (h : Steps p.tables e below a b) (k : FinH p e below Z EL s Q C S b) : FinH p e below Z EL s Q C S a := FinH.by (fun _ k => h.trans k) k
theorem FinH.start {Z : State} {EL : List (String × Nat)} {Q : Option Value → Heap → List Loc → Prop} {C S : Nat} {g g' : JFrame} (q : g = g') (k : FinH p e below Z EL s Q C S (T.setTop g')) :
    ∃ s₂ o, Steps p.tables e below (T.setTop g) s₂ ∧ s₂.status = .running ∧ Ended s₂ below o ∧ ∃ v L, o = .returned v ∧ Q v s₂.heap L ∧ CHr Z EL s.vm s.heap s₂.vm s₂.heap ∧ ReturnedEndW s o s₂ L C S := by
  subst q; exact k
theorem FinH.ret {Z : State} {EL : List (String × Nat)} {Q : Option Value → Heap → List Loc → Prop} {C S : Nat} {v : Option Value} {g : JFrame} {V : Vm} {n : Nat} (X : Stand p l e R (s.setVm V) m args below meth c T locs cells slots) (hS : s.Since V n) (hn : n ≤ T.heap.size) (hv : meth.sig.returnType = none → v = none) (hl : meth.locks = false)
    (hq : Q v T.heap locs) (hC : CHr Z EL s.vm s.heap T.vm T.heap) (hc : cells ≤ C) (hs : slots ≤ S) (st : ∀ fs, (∀ (f : JFrame) (acts : List Action), f.method = m → f.locked = none → f.entered = [] → (doReturn e (T.setTop f) acts v).1 = T.setFrames fs) → Steps p.tables e below (T.setTop g) (T.setFrames fs)) :
    FinH p e below Z EL s Q C S (T.setTop g) := by
  obtain ⟨fs, hr, hrun, hended, hE⟩ := X.leaveW hS hn hv hl
  exact ⟨_, _, st fs hr, hrun, hended, _, _, rfl, hq, hC, hE.1, hE.2.1, hE.2.2.1, hE.2.2.2.mono hc hs⟩
end OwnKit
theorem own_and255 (x : Int32) : ¬ (x &&& 255) < 0 ∧ ¬ (255 : Int32) < (x &&& 255) := by
  have h := c_and x 255 (by decide)
  have h255 : (255 : Int32).toInt = 255 := by decide
  have h0 : (0 : Int32).toInt = 0 := by decide
  constructor
  · rw [Int32.lt_iff_toInt_lt]; omega
  · rw [Int32.lt_iff_toInt_lt]; omega
theorem own_c255 (x : Int32) : ¬ (nar .char ((x &&& (255 : Int32)).toUInt32.toUInt16.toUInt32.toInt32)) < 0 ∧ ¬ (255 : Int32) < (nar .char ((x &&& (255 : Int32)).toUInt32.toUInt16.toUInt32.toInt32)) := by
  rw [show nar .char ((x &&& (255 : Int32)).toUInt32.toUInt16.toUInt32.toInt32) = x &&& 255 from by simp only [nar, i2c_mask]]; exact own_and255 x
theorem own_cons {P : Int32 → Prop} {a : Int32} {L : List Int32} (h : P a) (k : ∀ c ∈ L, P c) : ∀ c ∈ a :: L, P c := fun c hc => (List.mem_cons.mp hc).elim (fun q => q ▸ h) (k c)
theorem own_nil {P : Int32 → Prop} : ∀ c ∈ ([] : List Int32), P c := fun _ h => nomatch h
theorem own_eqv {x y : Term} {s : State} {args : Array Value} {v : Value} (h : (Jvm.Cond.eq x y).value args s none s [] = some true) (hy : y.eval args s none [] s = some v) (hk : (match v with | .float _ | .double _ | .retAddr _ => false | _ => true) = true) : x.eval args s none [] s = some v := by
  cases hx : x.eval args s none [] s with
  | none => simp [Jvm.Cond.value, hx] at h
  | some u => cases u <;> cases v <;> simp [Jvm.Cond.value, hx, hy] at h hk ⊢ <;> exact h
theorem own_eqi {x : Term} {s : State} {args : Array Value} {n : Int32} (h : (Jvm.Cond.eq x (.int n)).value args s none s [] = some true) : x.eval args s none [] s = some (.int n) := own_eqv h (Term.int_eval n) rfl
theorem own_i8 (c : Int32) : (c.toInt8.toInt32).toInt8.toInt32 = c.toInt8.toInt32 := by simp
theorem own_shl1 {i : Nat} (h : i < 2 ^ 29) : (Int32.ofNat i <<< ((1 : Int32) &&& 31)) = Int32.ofNat (2 * i) := by
  have h1 := c_ishl (Int32.ofNat i) 1 1 (by decide)
  have h2 : (Int32.ofNat i).toInt = (i : Int) := toInt_of rfl (by omega)
  have h3 : (Int32.ofNat (2 * i)).toInt = ((2 * i : Nat) : Int) := toInt_of rfl (by omega)
  have h4 := rng32 (Int32.ofNat i <<< ((1 : Int32) &&& 31))
  rw [h2] at h1
  exact Int32.toInt_inj.mp (by rw [h3]; omega)
theorem own_ext {i : Nat} {x : Int32} (h : x = Int32.ofNat i) : x + (1 : Int32) = Int32.ofNat (i + 1) := by rw [h]; exact (inc_ofNat i).symm
theorem own_notlt {i : Nat} (h : i < 2 ^ 31) : ¬ Int32.ofNat i < (0 : Int32) := by
  rw [Int32.lt_iff_toInt_lt, toInt_of rfl h]; have : (0 : Int32).toInt = 0 := by decide
  omega
theorem own_ltn {i n : Nat} (h : i < n) (hn : n < 2 ^ 31) : Int32.ofNat i < Int32.ofNat n := by
  rw [Int32.lt_iff_toInt_lt, toInt_of rfl (by omega), toInt_of rfl hn]; omega
theorem own_codlen {cs : List Int32} {cd N2 : Int32} {vs : List Value} (h : StrChars.Road.CodA cs cd N2 vs) : cd = 0 ∨ cd = 1 := h.imp (fun q => q.1) (fun q => q.1)
theorem own_narch {c : Int32} (h : ¬ c < 0 ∧ ¬ (65535 : Int32) < c) : nar .char c = c := by
  have := StrChars.narrow_ch h.1 h.2
  exact Value.int.inj this
theorem own_up2 {cs : List Int32} (h : ∀ c ∈ cs, ¬ c < 0 ∧ ¬ (65535 : Int32) < c) {i : Nat} (hi : i < cs.length) : ¬ cs.getD i 0 < 0 ∧ ¬ (65535 : Int32) < cs.getD i 0 := by
  have e : cs.getD i 0 = cs[i] := by simp [List.getD_eq_getElem?_getD, hi]
  rw [e]; exact h _ (List.getElem_mem hi)
theorem own_lat {cs : List Int32} (hb3 : ∀ c ∈ cs, ¬ c < 0 ∧ ¬ (65535 : Int32) < c) (hlat : ∀ c ∈ cs, ¬ (255 : Int32) < c) {i : Nat} (hi : i < cs.length) : nar .char (nar .char ((StrChars.lo8 (cs.getD i 0) &&& (255 : Int32)).toUInt32.toUInt16.toUInt32.toInt32)) = cs.getD i 0 := by
  have hq := own_up2 hb3 hi
  have hq2 : ¬ (255 : Int32) < cs.getD i 0 := by
    have e : cs.getD i 0 = cs[i] := by simp [List.getD_eq_getElem?_getD, hi]
    rw [e]; exact hlat _ (List.getElem_mem hi)
  have e1 := StrChars.chr8_lo8 hq.1 hq2
  simp only [StrChars.chr8] at e1
  rw [e1, own_narch hq, own_narch hq]
theorem own_wid {cs : List Int32} (hb3 : ∀ c ∈ cs, ¬ c < 0 ∧ ¬ (65535 : Int32) < c) {i : Nat} (hi : i < cs.length) : nar .char (nar .char (nar .char (StrChars.pairCh (StrChars.lo8 (cs.getD i 0)) (StrChars.hi8 (cs.getD i 0))))) = cs.getD i 0 := by
  have hq := own_up2 hb3 hi
  rw [StrChars.pair_says hq.1 hq.2, own_narch hq, own_narch hq, own_narch hq]
theorem own_raw_lo (c : Int32) : ((c >>> ((0 : Int32) &&& 31)).toInt8.toInt32).toInt8.toInt32 = StrChars.lo8 c := by simp [StrChars.shr0, StrChars.lo8]
theorem own_raw_hi (c : Int32) : ((c >>> ((8 : Int32) &&& 31)).toInt8.toInt32).toInt8.toInt32 = StrChars.hi8 c := by simp [StrChars.hi8, StrChars.lo8]
theorem own_pw {c : Int32} (h : ¬ c < 0 ∧ ¬ (65535 : Int32) < c) : nar .char (StrChars.pairCh (((c >>> ((0 : Int32) &&& 31)).toInt8.toInt32).toInt8.toInt32) (((c >>> ((8 : Int32) &&& 31)).toInt8.toInt32).toInt8.toInt32)) = c := by
  rw [own_raw_lo, own_raw_hi, StrChars.pair_says h.1 h.2, own_narch h]
theorem own_slen {cs : List Int32} {cd N2 : Int32} {vs : List Value} (h : StrChars.Road.CodA cs cd N2 vs) (hl : cs.length ≤ 4000) : N2 >>> ((nar .byte cd) &&& 31) = Int32.ofNat cs.length := by
  rcases h with ⟨h1, h2, -, -⟩ | ⟨h1, h2, -, -⟩
  · subst h1; rw [h2, show ((nar .byte (0 : Int32)) &&& 31) = ((0 : Int32) &&& 31) from by decide, StrChars.shr0]
  · subst h1; rw [h2, show ((nar .byte (1 : Int32)) &&& 31) = ((1 : Int32) &&& 31) from by decide, StrChars.shr1 (by omega)]
def own_pre (m a b d : Int32) : List Int32 := if m = 0 then [] else if m = 1 then [a] else if m = 2 then [a, b] else [a, b, d]
theorem own_pre0 (a b d : Int32) : own_pre 0 a b d = [] := by simp [own_pre]
theorem own_pre1 (a b d : Int32) : own_pre 1 a b d = [a] := by simp [own_pre]
theorem own_pre2 (a b d : Int32) : own_pre 2 a b d = [a, b] := by simp [own_pre]
theorem own_pre3 (a b d : Int32) : own_pre 3 a b d = [a, b, d] := by simp [own_pre]
theorem own_prelen {m a b d : Int32} (h : m = 0 ∨ m = 1 ∨ m = 2 ∨ m = 3) : Int32.ofNat (own_pre m a b d).length = m := by
  rcases h with rfl | rfl | rfl | rfl <;> simp [own_pre]
theorem own_prele (m a b d : Int32) : (own_pre m a b d).length ≤ 4000 := by
  unfold own_pre; split <;> (try split) <;> (try split) <;> simp
theorem own_nb (x : Int32) : ¬ nar .char x < 0 ∧ ¬ (65535 : Int32) < nar .char x := rng_char (fits_nar_char _)
theorem own_preb (m a b d : Int32) : ∀ c ∈ own_pre m (nar .char a) (nar .char b) (nar .char d), ¬ c < 0 ∧ ¬ (65535 : Int32) < c := by
  unfold own_pre; split
  · exact own_nil
  · split
    · exact own_cons (own_nb _) own_nil
    · split
      · exact own_cons (own_nb _) (own_cons (own_nb _) own_nil)
      · exact own_cons (own_nb _) (own_cons (own_nb _) (own_cons (own_nb _) own_nil))
theorem own_of4 {x : Int32} (h0 : 0 ≤ x.toInt) (h1 : x.toInt ≤ 3) : x = 0 ∨ x = 1 ∨ x = 2 ∨ x = 3 := by
  have h : x.toInt = 0 ∨ x.toInt = 1 ∨ x.toInt = 2 ∨ x.toInt = 3 := by omega
  rcases h with h | h | h | h
  · exact Or.inl (Int32.toInt_inj.mp (by rw [h]; decide))
  · exact Or.inr (Or.inl (Int32.toInt_inj.mp (by rw [h]; decide)))
  · exact Or.inr (Or.inr (Or.inl (Int32.toInt_inj.mp (by rw [h]; decide))))
  · exact Or.inr (Or.inr (Or.inr (Int32.toInt_inj.mp (by rw [h]; decide))))
theorem own_and3 (x : Int32) : (x &&& 3) = 0 ∨ (x &&& 3) = 1 ∨ (x &&& 3) = 2 ∨ (x &&& 3) = 3 := by
  have h := c_and x 3 (by decide)
  exact own_of4 h.1 (Int.le_trans h.2 (by decide))
theorem own_modr (x y : Int32) (hy : 0 < y.toInt) : 0 ≤ ((x &&& 2147483647) % y).toInt ∧ ((x &&& 2147483647) % y).toInt < y.toInt := by
  have h := c_and x 2147483647 (by decide)
  rw [Int32.toInt_mod, Int.tmod_eq_emod_of_nonneg h.1]
  exact ⟨Int.emod_nonneg _ (by omega), Int.emod_lt_of_pos _ hy⟩
theorem own_mod5 (x : Int32) : ((x &&& 2147483647) % 5) = 0 ∨ ((x &&& 2147483647) % 5) = 1 ∨ ((x &&& 2147483647) % 5) = 2 ∨ ((x &&& 2147483647) % 5) = 3 ∨ ((x &&& 2147483647) % 5) = 4 := by
  have h := own_modr x 5 (by decide)
  by_cases q : ((x &&& 2147483647) % 5).toInt ≤ 3
  · rcases own_of4 h.1 q with h | h | h | h <;> simp [h]
  · have h5 : (5 : Int32).toInt = 5 := by decide
    exact Or.inr (Or.inr (Or.inr (Or.inr (Int32.toInt_inj.mp (by have : (4 : Int32).toInt = 4 := by decide
                                                                 omega)))))
theorem own_k1 (x : Int32) : (x &&& 3) + 1 ≠ 0 := by rcases own_and3 x with h | h | h | h <;> rw [h] <;> decide
theorem own_modk {k : Int32} (hk : k = 0 ∨ k = 1 ∨ k = 2 ∨ k = 3) (x : Int32) : (((x &&& 2147483647) % (k + 1)) = 0 ∨ ((x &&& 2147483647) % (k + 1)) = 1 ∨ ((x &&& 2147483647) % (k + 1)) = 2 ∨ ((x &&& 2147483647) % (k + 1)) = 3) ∧ ¬ k < ((x &&& 2147483647) % (k + 1)) := by
  have q : 0 < (k + 1).toInt ∧ (k + 1).toInt = k.toInt + 1 ∧ k.toInt ≤ 3 := by rcases hk with rfl | rfl | rfl | rfl <;> decide
  have h := own_modr x (k + 1) q.1
  exact ⟨own_of4 h.1 (by omega), by rw [Int32.lt_iff_toInt_lt]; omega⟩
def own_z (x : Int32) : Int32 := if x = 0 then 1 else 0
theorem own_clamp (x : Int32) : x.toNatClampNeg < 2 ^ 31 := by
  have h := rng32 x
  simp only [Int32.toNatClampNeg]; omega
theorem own_tk {v2 : List Value} {cs : List Int32} (h : v2.take cs.length = cs.map Value.int) (i : Nat) (hi : i < cs.length) : v2.getD i (.int 0) = .int (cs.getD i 0) := by
  have h1 : (v2.take cs.length)[i]? = some (.int cs[i]) := by rw [h]; simp [hi]
  rw [List.getElem?_take, if_pos hi] at h1
  simp [List.getD_eq_getElem?_getD, h1, hi]
theorem own_selpriv {s : State} {args : Array Value} {z y : MethodName} (hz : (Cond.selects z.cls z z).before args s = true) (hc : z.cls = y.cls) (hpriv : s.PrivateAt y) (hinst : (Cond.instanceMethod y).before args s = true) (hy : y.cls ≠ "java/lang/invoke/MethodHandle" ∧ y.cls ≠ "java/lang/invoke/VarHandle") : (Cond.selects y.cls y y).before args s = true := by
  obtain ⟨c, r, m, h1, h2, h3, h4, k, hk, hki⟩ := Cond.selects_spec hz
  exact Stand.selects_self_of_private (hc ▸ findClass_of_methodNamed h3) hk hki hpriv hinst hy
set_option maxRecDepth 65536 in
theorem own_EW0 {Z : State} {a0 : Array Value} (hw : ∀ d ∈ tables_1, d.before a0 Z = true) : EW Z a0 consts_1 := (EW.cons (w_ hw 20 rfl) (by decide +kernel) EW.nil)
theorem own_strAtoms : ∀ d ∈ Bundle.stringAtoms, d ∈ tables_1 := by decide +kernel
theorem own_safe_blank {Z : State} {EL : List (String × Nat)} {vm : Vm} {h : Heap} {a : Addr} (hal : Z.vm.Alike vm) (E : Exa Z h a "java/lang/String") (F : Fld Z h a "java/lang/String" "value" "[B" .null) : Safe Z EL vm h a := fun B => by
  obtain ⟨p, hp, u, a', hb, q, hq, G, hy⟩ := B
  have ha := G.ha
  have hd := G.hd
  obtain ⟨cS, ⟨⟨s1, s2, s3, ⟨cv, kv, iv, s4, s4'⟩, ⟨cc, kc, ic, s5, s5'⟩, s6, s7, s8, s9, s10, s11, s12, s13, s14, s15, s16⟩, hfS, hcS⟩, ⟨kS, k1, k2, k3⟩, hB, hbyt⟩ := G
  rcases hy with rfl | rfl
  · obtain ⟨kv', z4⟩ := ff_back (U := Wst Z vm h) hal s4
    obtain ⟨cell, cf, k, i, f, f1, f2, f3, f4, f5, f6, f7⟩ := F
    cases f1.symm.trans ha
    cases f2.symm.trans z4
    rw [s8] at f7
    cases f7
  · obtain ⟨cell, k, e1, e2, e3, -⟩ := E
    cases e1.symm.trans hd
    have hBZ : Z.vm.findClass "[B" = some q.SA.cls := by rw [← hal.findClass]; exact hB
    obtain ⟨x1, y1, y2⟩ := Vm.findClass_spec e2
    obtain ⟨x2, w1, w2⟩ := Vm.findClass_spec hBZ
    cases y1.symm.trans w1
    exact absurd (y2.symm.trans w2) (by decide)
theorem d_jdk_41_method_11_0 : decode jdk_41_method_11_code 0 = .ok (.iload_n 0, 1) := by decide +kernel
theorem d_jdk_41_method_11_1 : decode jdk_41_method_11_code 1 = .ok (.ifCond .lt 8, 3) := by decide +kernel
theorem d_jdk_41_method_11_4 : decode jdk_41_method_11_code 4 = .ok (.iload_n 0, 1) := by decide +kernel
theorem d_jdk_41_method_11_5 : decode jdk_41_method_11_code 5 = .ok (.iload_n 1, 1) := by decide +kernel
theorem d_jdk_41_method_11_6 : decode jdk_41_method_11_code 6 = .ok (.if_icmp .lt 10, 3) := by decide +kernel
theorem d_jdk_41_method_11_16 : decode jdk_41_method_11_code 16 = .ok (.iload_n 0, 1) := by decide +kernel
theorem d_jdk_41_method_11_17 : decode jdk_41_method_11_code 17 = .ok (.ireturn, 1) := by decide +kernel
theorem pn_jdk_internal_util_Preconditions : plainName "jdk/internal/util/Preconditions" = true := by first | (simp [plainName, overriddenIn]; done) | decide +kernel
def Q_pci (Z : State) (i : Int32) (n : Int32) (v : Value) (h0 : Heap) (n0 : Nat) (vv_ : Option Value) (hh_ : Heap) (LL_ : List Loc) : Prop := vv_ = some (.int i) ∧ Fr n0 LL_ ∧ hh_ = h0
set_option maxRecDepth 65536 in
set_option maxHeartbeats 40000000 in
theorem rm_pci (l : Launch) (Z : State) (a0 : Array Value) (hw : ∀ d ∈ tables_1, d.before a0 Z = true) (ws : List Jvm.Cond) (i : Int32) (n : Int32) (v : Value) (h0 : Heap) (n0 : Nat) (Z0 : n0 ≤ h0.size) (hz0 : ¬ i < (0 : Int32)) (hz1 : i < n) (rv : v.isRef = true) :
    MetFree l (⟨"jdk/internal/util/Preconditions", "checkIndex", "(IILjava/util/function/BiFunction;)I"⟩ : MethodName) (head1 (Jvm.Cond.code (⟨"jdk/internal/util/Preconditions", "checkIndex", "(IILjava/util/function/BiFunction;)I"⟩ : MethodName) jdk_41_method_11_code 3 (some .int) :: ws) ({ frames := 0, cells := 0, slots := 0, locals := 0 } : Room)) (fun aa_ U => aa_ = #[(.int i), (.int n), v] ∧ Z.Warmed39 U.vm ∧ U.heap = h0) (fun _ _ _ _ _ => True) (fun _ U o U' => ∃ vv_ LL_, o = .returned vv_ ∧ Q_pci Z i n v h0 n0 vv_ U'.heap LL_ ∧ FrameEnd U o U' LL_ 0 0) := by
  refine MetFree.of_bodySF (plainFor_of_name pn_jdk_internal_util_Preconditions) hisR ?_
  intro p e s m args below meth c s₁ Bd hml0 hP hK
  obtain ⟨rfl, hZ, hh⟩ := hP
  have hx := Bd.exec
  have hby := Bd.bytes
  have hml : c.maxLocals = 3 := hml0
  have hown : s.vm.findClass "jdk/internal/util/Preconditions" = some m.cls := findClass_of_methodNamed Bd.named
  have hnm := (name_of_methodNamed Bd.named Bd.method).1
  have X0 : Stand p l e ({ frames := 0, cells := 0, slots := 0, locals := 0 } : Room) s m #[(.int i), (.int n), v] below meth c s₁ [] 0 0 := Stand.of_body Bd
  have e0 : s₁.heap = h0 := by rw [← hh, Bd.state]; rfl
  have N0 := Fr.nil n0
  have ef : entryFrame m #[(.int i), (.int n), v] 3 = mkF m 0 #[.val (.int i), .val (.int n), .val v] [] := by first | (simp [entryFrame, mkF, argsToLocals, Value.category]; done) | rfl | (rcases ref_cases rv with rfl | ⟨_, rfl⟩ <;> simp [entryFrame, mkF, argsToLocals, Value.category])
  refine Fin.start (Q := Q_pci Z i n v h0 n0) ef ?_
  refine Fin.by (fun tt_ kk_ => XS.iloadN X0.here hx rfl (hb hby d_jdk_41_method_11_0) rfl kk_) ?_
  show Fin _ _ _ _ _ _ _ (s₁.setTop (mkF m 1 #[.val (.int i), .val (.int n), .val v] [(.int i)]))
  refine Fin.by (fun tt_ kk_ => XS.ifNo X0.here hx rfl (hb hby d_jdk_41_method_11_1) rfl ((if0 _ _).trans (flt (hz0 : ¬ i < (0 : Int32))).1) kk_) ?_
  refine Fin.by (fun tt_ kk_ => XS.iloadN X0.here hx rfl (hb hby d_jdk_41_method_11_4) rfl (XS.iloadN X0.here hx rfl (hb hby d_jdk_41_method_11_5) rfl kk_)) ?_
  show Fin _ _ _ _ _ _ _ (s₁.setTop (mkF m 6 #[.val (.int i), .val (.int n), .val v] [(.int n), (.int i)]))
  refine Fin.by (fun tt_ kk_ => XS.icmpYes X0.here hx rfl (pc0 := 6) (pc' := 16) rfl (hb hby d_jdk_41_method_11_6) rfl (tlt (hz1 : i < n)).1 (by decide) (by decide) kk_) ?_
  refine Fin.by (fun tt_ kk_ => XS.iloadN X0.here hx rfl (hb hby d_jdk_41_method_11_16) rfl kk_) ?_
  show Fin _ _ _ _ _ _ _ (s₁.setTop (mkF m 17 #[.val (.int i), .val (.int n), .val v] [(.int i)]))
  exact Fin.ret (v := some (.int i)) X0 (fun h => by rw [Bd.returns] at h; cases h) Bd.notSynchronized (by rw [e0]; exact ⟨rfl, N0, rfl⟩) (by decide) (by decide) (fun fs hr => retI X0 hx Bd.returns (hb hby d_jdk_41_method_11_17) hr)
abbrev y_0 : MethodName := (⟨"jdk/internal/util/Preconditions", "checkIndex", "(IILjava/util/function/BiFunction;)I"⟩ : MethodName)
theorem d_jdk_42_method_155_0 : decode jdk_42_method_155_code 0 = .ok (.iload_n 0, 1) := by decide +kernel
theorem d_jdk_42_method_155_1 : decode jdk_42_method_155_code 1 = .ok (.iload_n 1, 1) := by decide +kernel
theorem d_jdk_42_method_155_2 : decode jdk_42_method_155_code 2 = .ok (.getstatic 1053, 3) := by decide +kernel
theorem pd_11 : parseMethodDescriptor "(IILjava/util/function/BiFunction;)I" = some ⟨[.int, .int, (.object "java/util/function/BiFunction")], some .int⟩ := by decide +kernel
theorem d_jdk_42_method_155_5 : decode jdk_42_method_155_code 5 = .ok (.invokestatic 1059, 3) := by decide +kernel
theorem d_jdk_42_method_155_8 : decode jdk_42_method_155_code 8 = .ok (.pop, 1) := by decide +kernel
theorem d_jdk_42_method_155_9 : decode jdk_42_method_155_code 9 = .ok (.return_, 1) := by decide +kernel
theorem pn_java_lang_String : plainName "java/lang/String" = true := by first | (simp [plainName, overriddenIn]; done) | decide +kernel
def Q_sci (Z : State) (i : Int32) (n : Int32) (G9 : Value) (h0 : Heap) (n0 : Nat) (vv_ : Option Value) (hh_ : Heap) (LL_ : List Loc) : Prop := vv_ = none ∧ Fr n0 LL_ ∧ hh_ = h0
set_option maxRecDepth 65536 in
set_option maxHeartbeats 40000000 in
theorem rm_sci (l : Launch) (Z : State) (a0 : Array Value) (hw : ∀ d ∈ tables_1, d.before a0 Z = true) (ws : List Jvm.Cond) (i : Int32) (n : Int32) (G9 : Value) (h0 : Heap) (n0 : Nat) (Z0 : n0 ≤ h0.size) (hz0 : ¬ i < (0 : Int32)) (hz1 : i < n) (S9 : Sta Z Z.heap "jdk/internal/util/Preconditions" "SIOOBE_FORMATTER" "Ljava/util/function/BiFunction;" G9) (r9 : G9.isRef = true) (OL : Old Z n0 h0) :
    MetFree l (⟨"java/lang/String", "checkIndex", "(II)V"⟩ : MethodName) (head1 (Jvm.Cond.code (⟨"java/lang/String", "checkIndex", "(II)V"⟩ : MethodName) jdk_42_method_155_code 2 none :: ws) ({ frames := 1, cells := 0, slots := 0, locals := 14 } : Room)) (fun aa_ U => aa_ = #[(.int i), (.int n)] ∧ Z.Warmed39 U.vm ∧ U.heap = h0) (fun _ _ _ _ _ => True) (fun _ U o U' => ∃ vv_ LL_, o = .returned vv_ ∧ Q_sci Z i n G9 h0 n0 vv_ U'.heap LL_ ∧ FrameEnd U o U' LL_ 0 0) := by
  refine MetFree.of_bodySF (plainFor_of_name pn_java_lang_String) hisR ?_
  intro p e s m args below meth c s₁ Bd hml0 hP hK
  obtain ⟨rfl, hZ, hh⟩ := hP
  have hx := Bd.exec
  have hby := Bd.bytes
  have hml : c.maxLocals = 2 := hml0
  have hown : s.vm.findClass "java/lang/String" = some m.cls := findClass_of_methodNamed Bd.named
  have hnm := (name_of_methodNamed Bd.named Bd.method).1
  have X0 : Stand p l e ({ frames := 1, cells := 0, slots := 0, locals := 14 } : Room) s m #[(.int i), (.int n)] below meth c s₁ [] 0 0 := Stand.of_body Bd
  have e0 : s₁.heap = h0 := by rw [← hh, Bd.state]; rfl
  have N0 := Fr.nil n0
  have ef : entryFrame m #[(.int i), (.int n)] 2 = mkF m 0 #[.val (.int i), .val (.int n)] [] := by first | (simp [entryFrame, mkF, argsToLocals, Value.category]; done) | rfl
  refine Fin.start (Q := Q_sci Z i n G9 h0 n0) ef ?_
  refine Fin.by (fun tt_ kk_ => XS.iloadN X0.here hx rfl (hb hby d_jdk_42_method_155_0) rfl (XS.iloadN X0.here hx rfl (hb hby d_jdk_42_method_155_1) rfl kk_)) ?_
  obtain ⟨T101, X101, e101, st101⟩ := getS X0 hx hZ (host := "") hown (w_ hw 120 rfl) Via.refl e0 (S9.ext OL.2) (g := (mkF m 2 #[.val (.int i), .val (.int n)] [(.int n), (.int i)])) rfl (hb hby d_jdk_42_method_155_2)
  refine Fin.by (fun tt_ kk_ => st101 tt_ kk_) ?_
  obtain ⟨v102, _, ⟨T102, L102, k102, n102⟩, -, X102, ⟨Lc102, hQ102, l102, y102, z102⟩, st102⟩ := Jvm.LawKit.callS X101 hx (y := y_0) hown (mvT hZ (w_ hw 122 rfl)) (mvT hZ (w_ hw 123 rfl)) (mvT hZ (w_ hw 121 rfl)) (mvT hZ (w_ hw 124 rfl)) (by decide) (backOf (W := 0) (rm_pci l Z a0 hw [] i n G9 h0 n0 Z0 hz0 hz1 r9) hZ (w_ hw 124 rfl) (w_ hw 121 rfl) (by decide) (by decide)) (g := (mkF m 5 #[.val (.int i), .val (.int n)] [G9, (.int n), (.int i)])) rfl (by rw [hml]; rfl) (argsL := [(.int i), (.int n), G9]) (rest := []) (lenOf pd_11 rfl) rfl (by show 2 * 0 + _ ≤ _; exact Nat.le_of_eq rfl) (hb hby d_jdk_42_method_155_5) (fun _ _ => ⟨rfl, e101, (by decide : 0 + 0 ≤ _), (by decide : 0 + 0 ≤ _)⟩)
  dsimp only [Pt.U, Pt.locs, Pt.cells, Pt.slots] at X102 l102 y102 z102 st102 hQ102
  subst l102 y102 z102
  obtain ⟨rfl, Nq102, e102_⟩ := hQ102
  have N102_ := Fr.app N0 Nq102
  refine Fin.by (fun tt_ kk_ => st102 tt_ kk_) ?_
  have e102 := e102_
  refine Fin.by (fun tt_ kk_ => XS.pop X102.here hx rfl (hb hby d_jdk_42_method_155_8) rfl rfl kk_) ?_
  show Fin _ _ _ _ _ _ _ (T102.setTop (mkF m 9 #[.val (.int i), .val (.int n)] []))
  exact Fin.ret (v := none) X102 (fun _ => rfl) Bd.notSynchronized (by rw [e102]; exact ⟨rfl, N102_, rfl⟩) (by decide) (by decide) (fun fs hr => X102.returnOut hx Bd.returns (hb hby d_jdk_42_method_155_9) hr)
abbrev y_1 : MethodName := (⟨"java/lang/String", "checkIndex", "(II)V"⟩ : MethodName)
theorem d_jdk_43_method_2_0 : decode jdk_43_method_2_code 0 = .ok (.iload_n 1, 1) := by decide +kernel
theorem d_jdk_43_method_2_1 : decode jdk_43_method_2_code 1 = .ok (.aload_n 0, 1) := by decide +kernel
theorem d_jdk_43_method_2_2 : decode jdk_43_method_2_code 2 = .ok (.arraylength, 1) := by decide +kernel
theorem pd_19 : parseMethodDescriptor "(II)V" = some ⟨[.int, .int], none⟩ := by decide +kernel
theorem d_jdk_43_method_2_3 : decode jdk_43_method_2_code 3 = .ok (.invokestatic 9, 3) := by decide +kernel
theorem d_jdk_43_method_2_6 : decode jdk_43_method_2_code 6 = .ok (.aload_n 0, 1) := by decide +kernel
theorem d_jdk_43_method_2_7 : decode jdk_43_method_2_code 7 = .ok (.iload_n 1, 1) := by decide +kernel
theorem d_jdk_43_method_2_8 : decode jdk_43_method_2_code 8 = .ok (.baload, 1) := by decide +kernel
theorem d_jdk_43_method_2_9 : decode jdk_43_method_2_code 9 = .ok (.sipush 255, 3) := by decide +kernel
theorem d_jdk_43_method_2_12 : decode jdk_43_method_2_code 12 = .ok (.iand, 1) := by decide +kernel
theorem d_jdk_43_method_2_13 : decode jdk_43_method_2_code 13 = .ok (.i2c, 1) := by decide +kernel
theorem d_jdk_43_method_2_14 : decode jdk_43_method_2_code 14 = .ok (.ireturn, 1) := by decide +kernel
theorem pn_java_lang_StringLatin1 : plainName "java/lang/StringLatin1" = true := by first | (simp [plainName, overriddenIn]; done) | decide +kernel
def Q_lch (Z : State) (t : Addr) (kb : ClassId) (N2 : Int32) (vs : List Value) (i : Nat) (j : Int32) (u : Int32) (G9 : Value) (h0 : Heap) (n0 : Nat) (vv_ : Option Value) (hh_ : Heap) (LL_ : List Loc) : Prop := vv_ = some (.int (nar .char ((u &&& (255 : Int32)).toUInt32.toUInt16.toUInt32.toInt32))) ∧ Fr n0 LL_ ∧ hh_ = h0
set_option maxRecDepth 65536 in
set_option maxHeartbeats 40000000 in
theorem rm_lch (l : Launch) (Z : State) (a0 : Array Value) (hw : ∀ d ∈ tables_1, d.before a0 Z = true) (ws : List Jvm.Cond) (t : Addr) (kb : ClassId) (N2 : Int32) (vs : List Value) (i : Nat) (j : Int32) (u : Int32) (G9 : Value) (h0 : Heap) (n0 : Nat) (Z0 : n0 ≤ h0.size) (hj : j = Int32.ofNat i) (hlt : j < N2) (hi : i < N2.toNatClampNeg) (hb2 : N2.toNatClampNeg < 2 ^ 31) (hu : vs.getD i (.int 0) = .int u) (A0 : Arv Z h0 t kb .byte N2 vs (.int 0)) (S9 : Sta Z Z.heap "jdk/internal/util/Preconditions" "SIOOBE_FORMATTER" "Ljava/util/function/BiFunction;" G9) (r9 : G9.isRef = true) (OL : Old Z n0 h0) :
    MetFree l (⟨"java/lang/StringLatin1", "charAt", "([BI)C"⟩ : MethodName) (head1 (Jvm.Cond.code (⟨"java/lang/StringLatin1", "charAt", "([BI)C"⟩ : MethodName) jdk_43_method_2_code 2 (some .char) :: ws) ({ frames := 2, cells := 0, slots := 0, locals := 27 } : Room)) (fun aa_ U => aa_ = #[(.ref t), (.int j)] ∧ Z.Warmed39 U.vm ∧ U.heap = h0) (fun _ _ _ _ _ => True) (fun _ U o U' => ∃ vv_ LL_, o = .returned vv_ ∧ Q_lch Z t kb N2 vs i j u G9 h0 n0 vv_ U'.heap LL_ ∧ FrameEnd U o U' LL_ 0 0) := by
  refine MetFree.of_bodySF (plainFor_of_name pn_java_lang_StringLatin1) hisR ?_
  intro p e s m args below meth c s₁ Bd hml0 hP hK
  obtain ⟨rfl, hZ, hh⟩ := hP
  have hx := Bd.exec
  have hby := Bd.bytes
  have hml : c.maxLocals = 2 := hml0
  have hown : s.vm.findClass "java/lang/StringLatin1" = some m.cls := findClass_of_methodNamed Bd.named
  have hnm := (name_of_methodNamed Bd.named Bd.method).1
  have X0 : Stand p l e ({ frames := 2, cells := 0, slots := 0, locals := 27 } : Room) s m #[(.ref t), (.int j)] below meth c s₁ [] 0 0 := Stand.of_body Bd
  have e0 : s₁.heap = h0 := by rw [← hh, Bd.state]; rfl
  have N0 := Fr.nil n0
  have ef : entryFrame m #[(.ref t), (.int j)] 2 = mkF m 0 #[.val (.ref t), .val (.int j)] [] := by first | (simp [entryFrame, mkF, argsToLocals, Value.category]; done) | rfl
  refine Fin.start (Q := Q_lch Z t kb N2 vs i j u G9 h0 n0) ef ?_
  refine Fin.by (fun tt_ kk_ => XS.iloadN X0.here hx rfl (hb hby d_jdk_43_method_2_0) rfl (XS.aloadN X0.here hx rfl (hb hby d_jdk_43_method_2_1) rfl rfl kk_)) ?_
  obtain ⟨cl101, Ar101, q101, S101, N101, H101, G101⟩ := id A0
  refine Fin.by (fun tt_ kk_ => X0.arraylength hx (by rw [e0]; exact Ar101.1) (State.isArrayOf_alike hZ.alike Ar101.2.1) (g := (mkF m 2 #[.val (.ref t), .val (.int j)] [(.ref t), (.int j)])) rfl rfl (hb hby d_jdk_43_method_2_2) _ kk_) ?_
  rw [len_of S101 N101]
  obtain ⟨v102, _, ⟨T102, L102, k102, n102⟩, -, X102, ⟨Lc102, hQ102, l102, y102, z102⟩, st102⟩ := Jvm.LawKit.callS X0 hx (y := y_1) hown (mvT hZ (w_ hw 129 rfl)) (mvT hZ (w_ hw 118 rfl)) (mvT hZ (w_ hw 8 rfl)) (mvT hZ (w_ hw 119 rfl)) (by decide) (backOf (W := 0) (rm_sci l Z a0 hw [] j N2 G9 h0 n0 Z0 (by rw [hj]; exact own_notlt (by omega)) hlt S9 r9 OL) hZ (w_ hw 119 rfl) (w_ hw 8 rfl) (by decide) (by decide)) (g := (mkF m 3 #[.val (.ref t), .val (.int j)] [(.int N2), (.int j)])) rfl (by rw [hml]; rfl) (argsL := [(.int j), (.int N2)]) (rest := []) (lenOf pd_19 rfl) rfl (by show 2 * 0 + _ ≤ _; exact Nat.le_of_eq rfl) (hb hby d_jdk_43_method_2_3) (fun _ _ => ⟨rfl, e0, (by decide : 0 + 0 ≤ _), (by decide : 0 + 0 ≤ _)⟩)
  dsimp only [Pt.U, Pt.locs, Pt.cells, Pt.slots] at X102 l102 y102 z102 st102 hQ102
  subst l102 y102 z102
  obtain ⟨rfl, Nq102, e102_⟩ := hQ102
  have N102_ := Fr.app N0 Nq102
  refine Fin.by (fun tt_ kk_ => st102 tt_ kk_) ?_
  have e102 := e102_
  refine Fin.by (fun tt_ kk_ => XS.aloadN X102.here hx rfl (hb hby d_jdk_43_method_2_6) rfl rfl (XS.iloadN X102.here hx rfl (hb hby d_jdk_43_method_2_7) rfl kk_)) ?_
  obtain ⟨cl103, Ar103, q103, S103, N103, H103, G103⟩ := id A0
  have hin103 : ¬ (j < 0 ∨ cl103.slots.size ≤ j.toNatClampNeg) := within hj (by rw [S103]; exact hi) (by rw [S103]; exact hb2)
  refine Fin.by (fun tt_ kk_ => X102.baloadBytes hx (j := j) (v := (.int u)) (by rw [e102]; exact Ar103.1) (State.isArrayOf_alike hZ.alike Ar103.2.1) Ar103.2.2 hin103 (Has.at H103 hin103 (by rw [clamp_of hj (by omega)]; exact hu)) (g := (mkF m 8 #[.val (.ref t), .val (.int j)] [(.int j), (.ref t)])) rfl rfl (hb hby d_jdk_43_method_2_8) _ kk_) ?_
  refine Fin.by (fun tt_ kk_ => XS.sipush X102.here hx rfl (hb hby d_jdk_43_method_2_9) (XS.iand X102.here hx rfl (hb hby d_jdk_43_method_2_12) rfl (XS.i2c X102.here hx rfl (hb hby d_jdk_43_method_2_13) rfl kk_))) ?_
  show Fin _ _ _ _ _ _ _ (T102.setTop (mkF m 14 #[.val (.ref t), .val (.int j)] [(.int ((u &&& 255).toUInt32.toUInt16.toUInt32.toInt32))]))
  exact Fin.ret (v := some (.int (nar .char ((u &&& (255 : Int32)).toUInt32.toUInt16.toUInt32.toInt32)))) X102 (fun h => by rw [Bd.returns] at h; cases h) Bd.notSynchronized (by rw [e102]; exact ⟨rfl, N102_, rfl⟩) (by decide) (by decide) (fun fs hr => retN X102 hx (t := .char) Bd.returns (by simp) (hb hby d_jdk_43_method_2_14) hr)
theorem d_jdk_52_method_6_0 : decode jdk_52_method_6_code 0 = .ok (.aload_n 0, 1) := by decide +kernel
theorem d_jdk_52_method_6_1 : decode jdk_52_method_6_code 1 = .ok (.arraylength, 1) := by decide +kernel
theorem d_jdk_52_method_6_2 : decode jdk_52_method_6_code 2 = .ok (.iconst 1, 1) := by decide +kernel
theorem d_jdk_52_method_6_3 : decode jdk_52_method_6_code 3 = .ok (.ishr, 1) := by decide +kernel
theorem d_jdk_52_method_6_4 : decode jdk_52_method_6_code 4 = .ok (.ireturn, 1) := by decide +kernel
theorem pn_java_lang_StringUTF16 : plainName "java/lang/StringUTF16" = true := by first | (simp [plainName, overriddenIn]; done) | decide +kernel
def Q_ule (Z : State) (t : Addr) (kb : ClassId) (N2 : Int32) (vs : List Value) (h0 : Heap) (n0 : Nat) (vv_ : Option Value) (hh_ : Heap) (LL_ : List Loc) : Prop := vv_ = some (.int (N2 >>> ((1 : Int32) &&& 31))) ∧ Fr n0 LL_ ∧ hh_ = h0
set_option maxRecDepth 65536 in
set_option maxHeartbeats 40000000 in
theorem rm_ule (l : Launch) (Z : State) (a0 : Array Value) (hw : ∀ d ∈ tables_1, d.before a0 Z = true) (ws : List Jvm.Cond) (t : Addr) (kb : ClassId) (N2 : Int32) (vs : List Value) (h0 : Heap) (n0 : Nat) (Z0 : n0 ≤ h0.size) (A0 : Arv Z h0 t kb .byte N2 vs (.int 0)) :
    MetFree l (⟨"java/lang/StringUTF16", "length", "([B)I"⟩ : MethodName) (head1 (Jvm.Cond.code (⟨"java/lang/StringUTF16", "length", "([B)I"⟩ : MethodName) jdk_52_method_6_code 1 (some .int) :: ws) ({ frames := 0, cells := 0, slots := 0, locals := 0 } : Room)) (fun aa_ U => aa_ = #[(.ref t)] ∧ Z.Warmed39 U.vm ∧ U.heap = h0) (fun _ _ _ _ _ => True) (fun _ U o U' => ∃ vv_ LL_, o = .returned vv_ ∧ Q_ule Z t kb N2 vs h0 n0 vv_ U'.heap LL_ ∧ FrameEnd U o U' LL_ 0 0) := by
  refine MetFree.of_bodySF (plainFor_of_name pn_java_lang_StringUTF16) hisR ?_
  intro p e s m args below meth c s₁ Bd hml0 hP hK
  obtain ⟨rfl, hZ, hh⟩ := hP
  have hx := Bd.exec
  have hby := Bd.bytes
  have hml : c.maxLocals = 1 := hml0
  have hown : s.vm.findClass "java/lang/StringUTF16" = some m.cls := findClass_of_methodNamed Bd.named
  have hnm := (name_of_methodNamed Bd.named Bd.method).1
  have X0 : Stand p l e ({ frames := 0, cells := 0, slots := 0, locals := 0 } : Room) s m #[(.ref t)] below meth c s₁ [] 0 0 := Stand.of_body Bd
  have e0 : s₁.heap = h0 := by rw [← hh, Bd.state]; rfl
  have N0 := Fr.nil n0
  have ef : entryFrame m #[(.ref t)] 1 = mkF m 0 #[.val (.ref t)] [] := by first | (simp [entryFrame, mkF, argsToLocals, Value.category]; done) | rfl
  refine Fin.start (Q := Q_ule Z t kb N2 vs h0 n0) ef ?_
  refine Fin.by (fun tt_ kk_ => XS.aloadN X0.here hx rfl (hb hby d_jdk_52_method_6_0) rfl rfl kk_) ?_
  obtain ⟨cl101, Ar101, q101, S101, N101, H101, G101⟩ := id A0
  refine Fin.by (fun tt_ kk_ => X0.arraylength hx (by rw [e0]; exact Ar101.1) (State.isArrayOf_alike hZ.alike Ar101.2.1) (g := (mkF m 1 #[.val (.ref t)] [(.ref t)])) rfl rfl (hb hby d_jdk_52_method_6_1) _ kk_) ?_
  rw [len_of S101 N101]
  refine Fin.by (fun tt_ kk_ => XS.iconst X0.here hx rfl (hb hby d_jdk_52_method_6_2) (XS.ishr X0.here hx rfl (hb hby d_jdk_52_method_6_3) rfl kk_)) ?_
  show Fin _ _ _ _ _ _ _ (s₁.setTop (mkF m 4 #[.val (.ref t)] [(.int (N2 >>> (1 &&& 31)))]))
  exact Fin.ret (v := some (.int (N2 >>> ((1 : Int32) &&& 31)))) X0 (fun h => by rw [Bd.returns] at h; cases h) Bd.notSynchronized (by rw [e0]; exact ⟨rfl, N0, rfl⟩) (by decide) (by decide) (fun fs hr => retI X0 hx Bd.returns (hb hby d_jdk_52_method_6_4) hr)
abbrev y_2 : MethodName := (⟨"java/lang/StringUTF16", "length", "([B)I"⟩ : MethodName)
theorem d_jdk_52_method_91_0 : decode jdk_52_method_91_code 0 = .ok (.iload_n 0, 1) := by decide +kernel
theorem d_jdk_52_method_91_1 : decode jdk_52_method_91_code 1 = .ok (.aload_n 1, 1) := by decide +kernel
theorem pd_37 : parseMethodDescriptor "([B)I" = some ⟨[(.array .byte)], some .int⟩ := by decide +kernel
theorem d_jdk_52_method_91_2 : decode jdk_52_method_91_code 2 = .ok (.invokestatic 48, 3) := by decide +kernel
theorem d_jdk_52_method_91_5 : decode jdk_52_method_91_code 5 = .ok (.invokestatic 414, 3) := by decide +kernel
theorem d_jdk_52_method_91_8 : decode jdk_52_method_91_code 8 = .ok (.return_, 1) := by decide +kernel
def Q_uck (Z : State) (t : Addr) (kb : ClassId) (N2 : Int32) (vs : List Value) (j : Int32) (G9 : Value) (h0 : Heap) (n0 : Nat) (vv_ : Option Value) (hh_ : Heap) (LL_ : List Loc) : Prop := vv_ = none ∧ Fr n0 LL_ ∧ hh_ = h0
set_option maxRecDepth 65536 in
set_option maxHeartbeats 40000000 in
theorem rm_uck (l : Launch) (Z : State) (a0 : Array Value) (hw : ∀ d ∈ tables_1, d.before a0 Z = true) (ws : List Jvm.Cond) (t : Addr) (kb : ClassId) (N2 : Int32) (vs : List Value) (j : Int32) (G9 : Value) (h0 : Heap) (n0 : Nat) (Z0 : n0 ≤ h0.size) (hz0 : ¬ j < (0 : Int32)) (hz1 : j < (N2 >>> ((1 : Int32) &&& 31))) (A0 : Arv Z h0 t kb .byte N2 vs (.int 0)) (S9 : Sta Z Z.heap "jdk/internal/util/Preconditions" "SIOOBE_FORMATTER" "Ljava/util/function/BiFunction;" G9) (r9 : G9.isRef = true) (OL : Old Z n0 h0) :
    MetFree l (⟨"java/lang/StringUTF16", "checkIndex", "(I[B)V"⟩ : MethodName) (head1 (Jvm.Cond.code (⟨"java/lang/StringUTF16", "checkIndex", "(I[B)V"⟩ : MethodName) jdk_52_method_91_code 2 none :: ws) ({ frames := 2, cells := 0, slots := 0, locals := 27 } : Room)) (fun aa_ U => aa_ = #[(.int j), (.ref t)] ∧ Z.Warmed39 U.vm ∧ U.heap = h0) (fun _ _ _ _ _ => True) (fun _ U o U' => ∃ vv_ LL_, o = .returned vv_ ∧ Q_uck Z t kb N2 vs j G9 h0 n0 vv_ U'.heap LL_ ∧ FrameEnd U o U' LL_ 0 0) := by
  refine MetFree.of_bodySF (plainFor_of_name pn_java_lang_StringUTF16) hisR ?_
  intro p e s m args below meth c s₁ Bd hml0 hP hK
  obtain ⟨rfl, hZ, hh⟩ := hP
  have hx := Bd.exec
  have hby := Bd.bytes
  have hml : c.maxLocals = 2 := hml0
  have hown : s.vm.findClass "java/lang/StringUTF16" = some m.cls := findClass_of_methodNamed Bd.named
  have hnm := (name_of_methodNamed Bd.named Bd.method).1
  have X0 : Stand p l e ({ frames := 2, cells := 0, slots := 0, locals := 27 } : Room) s m #[(.int j), (.ref t)] below meth c s₁ [] 0 0 := Stand.of_body Bd
  have e0 : s₁.heap = h0 := by rw [← hh, Bd.state]; rfl
  have N0 := Fr.nil n0
  have ef : entryFrame m #[(.int j), (.ref t)] 2 = mkF m 0 #[.val (.int j), .val (.ref t)] [] := by first | (simp [entryFrame, mkF, argsToLocals, Value.category]; done) | rfl
  refine Fin.start (Q := Q_uck Z t kb N2 vs j G9 h0 n0) ef ?_
  refine Fin.by (fun tt_ kk_ => XS.iloadN X0.here hx rfl (hb hby d_jdk_52_method_91_0) rfl (XS.aloadN X0.here hx rfl (hb hby d_jdk_52_method_91_1) rfl rfl kk_)) ?_
  obtain ⟨v101, _, ⟨T101, L101, k101, n101⟩, -, X101, ⟨Lc101, hQ101, l101, y101, z101⟩, st101⟩ := Jvm.LawKit.callS X0 hx (y := y_2) hown (mvT hZ (w_ hw 114 rfl)) (mvT hZ (w_ hw 115 rfl)) (mvT hZ (w_ hw 71 rfl)) (mvT hZ (w_ hw 116 rfl)) (by decide) (backOf (W := 1) (rm_ule l Z a0 hw [] t kb N2 (vs : List Value) h0 n0 Z0 A0) hZ (w_ hw 116 rfl) (w_ hw 71 rfl) (by decide) (by decide)) (g := (mkF m 2 #[.val (.int j), .val (.ref t)] [(.ref t), (.int j)])) rfl (by rw [hml]; rfl) (argsL := [(.ref t)]) (rest := [(.int j)]) (lenOf pd_37 rfl) rfl (by show 2 * 0 + _ ≤ _; exact Nat.le_of_eq rfl) (hb hby d_jdk_52_method_91_2) (fun _ _ => ⟨rfl, e0, (by decide : 0 + 0 ≤ _), (by decide : 0 + 0 ≤ _)⟩)
  dsimp only [Pt.U, Pt.locs, Pt.cells, Pt.slots] at X101 l101 y101 z101 st101 hQ101
  subst l101 y101 z101
  obtain ⟨rfl, Nq101, e101_⟩ := hQ101
  have N101_ := Fr.app N0 Nq101
  refine Fin.by (fun tt_ kk_ => st101 tt_ kk_) ?_
  have e101 := e101_
  obtain ⟨v102, _, ⟨T102, L102, k102, n102⟩, -, X102, ⟨Lc102, hQ102, l102, y102, z102⟩, st102⟩ := Jvm.LawKit.callS X101 hx (y := y_1) hown (mvT hZ (w_ hw 117 rfl)) (mvT hZ (w_ hw 118 rfl)) (mvT hZ (w_ hw 8 rfl)) (mvT hZ (w_ hw 119 rfl)) (by decide) (backOf (W := 0) (rm_sci l Z a0 hw [] j (N2 >>> ((1 : Int32) &&& 31)) G9 h0 n0 Z0 hz0 hz1 S9 r9 OL) hZ (w_ hw 119 rfl) (w_ hw 8 rfl) (by decide) (by decide)) (g := (mkF m 5 #[.val (.int j), .val (.ref t)] [(.int (N2 >>> (1 &&& 31))), (.int j)])) rfl (by rw [hml]; rfl) (argsL := [(.int j), (.int (N2 >>> (1 &&& 31)))]) (rest := []) (lenOf pd_19 rfl) rfl (by show 2 * 0 + _ ≤ _; exact Nat.le_of_eq rfl) (hb hby d_jdk_52_method_91_5) (fun _ _ => ⟨rfl, e101, (by decide : 0 + 0 ≤ _), (by decide : 0 + 0 ≤ _)⟩)
  dsimp only [Pt.U, Pt.locs, Pt.cells, Pt.slots] at X102 l102 y102 z102 st102 hQ102
  subst l102 y102 z102
  obtain ⟨rfl, Nq102, e102_⟩ := hQ102
  have N102_ := Fr.app N101_ Nq102
  refine Fin.by (fun tt_ kk_ => st102 tt_ kk_) ?_
  have e102 := e102_
  show Fin _ _ _ _ _ _ _ (T102.setTop (mkF m 8 #[.val (.int j), .val (.ref t)] []))
  exact Fin.ret (v := none) X102 (fun _ => rfl) Bd.notSynchronized (by rw [e102]; exact ⟨rfl, N102_, rfl⟩) (by decide) (by decide) (fun fs hr => X102.returnOut hx Bd.returns (hb hby d_jdk_52_method_91_8) hr)
theorem d_jdk_52_method_5_0 : decode jdk_52_method_5_code 0 = .ok (.getstatic 44, 3) := by decide +kernel
theorem d_jdk_52_method_5_3 : decode jdk_52_method_5_code 3 = .ok (.ifCond .ne 25, 3) := by decide +kernel
theorem d_jdk_52_method_5_28 : decode jdk_52_method_5_code 28 = .ok (.iload_n 1, 1) := by decide +kernel
theorem d_jdk_52_method_5_29 : decode jdk_52_method_5_code 29 = .ok (.iconst 1, 1) := by decide +kernel
theorem d_jdk_52_method_5_30 : decode jdk_52_method_5_code 30 = .ok (.ishl, 1) := by decide +kernel
theorem d_jdk_52_method_5_31 : decode jdk_52_method_5_code 31 = .ok (.istore_n 1, 1) := by decide +kernel
theorem d_jdk_52_method_5_32 : decode jdk_52_method_5_code 32 = .ok (.aload_n 0, 1) := by decide +kernel
theorem d_jdk_52_method_5_33 : decode jdk_52_method_5_code 33 = .ok (.iload_n 1, 1) := by decide +kernel
theorem d_jdk_52_method_5_34 : decode jdk_52_method_5_code 34 = .ok (.iinc 1 1, 3) := by decide +kernel
theorem d_jdk_52_method_5_37 : decode jdk_52_method_5_code 37 = .ok (.baload, 1) := by decide +kernel
theorem d_jdk_52_method_5_38 : decode jdk_52_method_5_code 38 = .ok (.sipush 255, 3) := by decide +kernel
theorem d_jdk_52_method_5_41 : decode jdk_52_method_5_code 41 = .ok (.iand, 1) := by decide +kernel
theorem d_jdk_52_method_5_42 : decode jdk_52_method_5_code 42 = .ok (.getstatic 59, 3) := by decide +kernel
theorem d_jdk_52_method_5_45 : decode jdk_52_method_5_code 45 = .ok (.ishl, 1) := by decide +kernel
theorem d_jdk_52_method_5_46 : decode jdk_52_method_5_code 46 = .ok (.aload_n 0, 1) := by decide +kernel
theorem d_jdk_52_method_5_47 : decode jdk_52_method_5_code 47 = .ok (.iload_n 1, 1) := by decide +kernel
theorem d_jdk_52_method_5_48 : decode jdk_52_method_5_code 48 = .ok (.baload, 1) := by decide +kernel
theorem d_jdk_52_method_5_49 : decode jdk_52_method_5_code 49 = .ok (.sipush 255, 3) := by decide +kernel
theorem d_jdk_52_method_5_52 : decode jdk_52_method_5_code 52 = .ok (.iand, 1) := by decide +kernel
theorem d_jdk_52_method_5_53 : decode jdk_52_method_5_code 53 = .ok (.getstatic 63, 3) := by decide +kernel
theorem d_jdk_52_method_5_56 : decode jdk_52_method_5_code 56 = .ok (.ishl, 1) := by decide +kernel
theorem d_jdk_52_method_5_57 : decode jdk_52_method_5_code 57 = .ok (.ior, 1) := by decide +kernel
theorem d_jdk_52_method_5_58 : decode jdk_52_method_5_code 58 = .ok (.i2c, 1) := by decide +kernel
theorem d_jdk_52_method_5_59 : decode jdk_52_method_5_code 59 = .ok (.ireturn, 1) := by decide +kernel
def Q_uge (Z : State) (t : Addr) (kb : ClassId) (N2 : Int32) (vs : List Value) (i : Nat) (j : Int32) (u : Int32) (v : Int32) (h0 : Heap) (n0 : Nat) (vv_ : Option Value) (hh_ : Heap) (LL_ : List Loc) : Prop := vv_ = some (.int (nar .char (StrChars.pairCh u v))) ∧ Fr n0 LL_ ∧ hh_ = h0
set_option maxRecDepth 65536 in
set_option maxHeartbeats 40000000 in
theorem rm_uge (l : Launch) (Z : State) (a0 : Array Value) (hw : ∀ d ∈ tables_1, d.before a0 Z = true) (ws : List Jvm.Cond) (t : Addr) (kb : ClassId) (N2 : Int32) (vs : List Value) (i : Nat) (j : Int32) (u : Int32) (v : Int32) (h0 : Heap) (n0 : Nat) (Z0 : n0 ≤ h0.size) (hj : j = Int32.ofNat i) (hi : 2 * i + 1 < N2.toNatClampNeg) (hb2 : N2.toNatClampNeg < 2 ^ 29) (hu : vs.getD (2 * i) (.int 0) = .int u) (hv : vs.getD (2 * i + 1) (.int 0) = .int v) (A0 : Arv Z h0 t kb .byte N2 vs (.int 0)) (S6 : Sta Z Z.heap "java/lang/StringUTF16" "$assertionsDisabled" "Z" (.int (1 : Int32))) (S7 : Sta Z Z.heap "java/lang/StringUTF16" "HI_BYTE_SHIFT" "I" (.int (0 : Int32))) (S8 : Sta Z Z.heap "java/lang/StringUTF16" "LO_BYTE_SHIFT" "I" (.int (8 : Int32))) (OL : Old Z n0 h0) :
    MetFree l (⟨"java/lang/StringUTF16", "getChar", "([BI)C"⟩ : MethodName) (head1 (Jvm.Cond.code (⟨"java/lang/StringUTF16", "getChar", "([BI)C"⟩ : MethodName) jdk_52_method_5_code 2 (some .char) :: ws) ({ frames := 0, cells := 0, slots := 0, locals := 0 } : Room)) (fun aa_ U => aa_ = #[(.ref t), (.int j)] ∧ Z.Warmed39 U.vm ∧ U.heap = h0) (fun _ _ _ _ _ => True) (fun _ U o U' => ∃ vv_ LL_, o = .returned vv_ ∧ Q_uge Z t kb N2 vs i j u v h0 n0 vv_ U'.heap LL_ ∧ FrameEnd U o U' LL_ 0 0) := by
  refine MetFree.of_bodySF (plainFor_of_name pn_java_lang_StringUTF16) hisR ?_
  intro p e s m args below meth c s₁ Bd hml0 hP hK
  obtain ⟨rfl, hZ, hh⟩ := hP
  have hx := Bd.exec
  have hby := Bd.bytes
  have hml : c.maxLocals = 2 := hml0
  have hown : s.vm.findClass "java/lang/StringUTF16" = some m.cls := findClass_of_methodNamed Bd.named
  have hnm := (name_of_methodNamed Bd.named Bd.method).1
  have X0 : Stand p l e ({ frames := 0, cells := 0, slots := 0, locals := 0 } : Room) s m #[(.ref t), (.int j)] below meth c s₁ [] 0 0 := Stand.of_body Bd
  have e0 : s₁.heap = h0 := by rw [← hh, Bd.state]; rfl
  have N0 := Fr.nil n0
  have ef : entryFrame m #[(.ref t), (.int j)] 2 = mkF m 0 #[.val (.ref t), .val (.int j)] [] := by first | (simp [entryFrame, mkF, argsToLocals, Value.category]; done) | rfl
  refine Fin.start (Q := Q_uge Z t kb N2 vs i j u v h0 n0) ef ?_
  obtain ⟨T101, X101, e101, st101⟩ := getS X0 hx hZ (host := "") hown (w_ hw 92 rfl) Via.refl e0 (S6.ext OL.2) (g := (mkF m 0 #[.val (.ref t), .val (.int j)] [])) rfl (hb hby d_jdk_52_method_5_0)
  refine Fin.by (fun tt_ kk_ => st101 tt_ kk_) ?_
  show Fin _ _ _ _ _ _ _ (T101.setTop (mkF m 3 #[.val (.ref t), .val (.int j)] [(.int 1)]))
  refine Fin.by (fun tt_ kk_ => XS.ifYes X101.here hx rfl (pc0 := 3) (pc' := 28) rfl (hb hby d_jdk_52_method_5_3) rfl ((if0 _ _).trans (feq (by decide : ¬ (1 : Int32) = (0 : Int32))).2) (by decide) (by decide) kk_) ?_
  refine Fin.by (fun tt_ kk_ => XS.iloadN X101.here hx rfl (hb hby d_jdk_52_method_5_28) rfl (XS.iconst X101.here hx rfl (hb hby d_jdk_52_method_5_29) (XS.ishl X101.here hx rfl (hb hby d_jdk_52_method_5_30) rfl (XS.istoreN X101.here hx rfl (hb hby d_jdk_52_method_5_31) rfl (l' := #[.val (.ref t), .val (.int (j <<< (1 &&& 31)))]) rfl (XS.aloadN X101.here hx rfl (hb hby d_jdk_52_method_5_32) rfl rfl (XS.iloadN X101.here hx rfl (hb hby d_jdk_52_method_5_33) rfl (XS.iinc X101.here hx rfl (hb hby d_jdk_52_method_5_34) rfl (l' := #[.val (.ref t), .val (.int ((j <<< (1 &&& 31)) + 1))]) rfl kk_))))))) ?_
  have q1 : (j <<< ((1 : Int32) &&& 31)) = Int32.ofNat (2 * i) := by rw [hj]; exact own_shl1 (by omega)
  have q2 := own_ext q1
  obtain ⟨cl102, Ar102, q102, S102, N102, H102, G102⟩ := id A0
  have hin102 : ¬ ((j <<< ((1 : Int32) &&& 31)) < 0 ∨ cl102.slots.size ≤ (j <<< ((1 : Int32) &&& 31)).toNatClampNeg) := within q1 (by rw [S102]; omega) (by rw [S102]; omega)
  refine Fin.by (fun tt_ kk_ => X101.baloadBytes hx (j := (j <<< ((1 : Int32) &&& 31))) (v := (.int u)) (by rw [e101]; exact Ar102.1) (State.isArrayOf_alike hZ.alike Ar102.2.1) Ar102.2.2 hin102 (Has.at H102 hin102 (by rw [clamp_of q1 (by omega)]; exact hu)) (g := (mkF m 37 #[.val (.ref t), .val (.int ((j <<< (1 &&& 31)) + 1))] [(.int (j <<< (1 &&& 31))), (.ref t)])) rfl rfl (hb hby d_jdk_52_method_5_37) _ kk_) ?_
  refine Fin.by (fun tt_ kk_ => XS.sipush X101.here hx rfl (hb hby d_jdk_52_method_5_38) (XS.iand X101.here hx rfl (hb hby d_jdk_52_method_5_41) rfl kk_)) ?_
  obtain ⟨T103, X103, e103, st103⟩ := getS X101 hx hZ (host := "") hown (w_ hw 93 rfl) Via.refl e101 (S7.ext OL.2) (g := (mkF m 42 #[.val (.ref t), .val (.int ((j <<< (1 &&& 31)) + 1))] [(.int (u &&& 255))])) rfl (hb hby d_jdk_52_method_5_42)
  refine Fin.by (fun tt_ kk_ => st103 tt_ kk_) ?_
  refine Fin.by (fun tt_ kk_ => XS.ishl X103.here hx rfl (hb hby d_jdk_52_method_5_45) rfl (XS.aloadN X103.here hx rfl (hb hby d_jdk_52_method_5_46) rfl rfl (XS.iloadN X103.here hx rfl (hb hby d_jdk_52_method_5_47) rfl kk_))) ?_
  obtain ⟨cl104, Ar104, q104, S104, N104, H104, G104⟩ := id A0
  have hin104 : ¬ (((j <<< ((1 : Int32) &&& 31)) + (1 : Int32)) < 0 ∨ cl104.slots.size ≤ ((j <<< ((1 : Int32) &&& 31)) + (1 : Int32)).toNatClampNeg) := within q2 (by rw [S104]; omega) (by rw [S104]; omega)
  refine Fin.by (fun tt_ kk_ => X103.baloadBytes hx (j := ((j <<< ((1 : Int32) &&& 31)) + (1 : Int32))) (v := (.int v)) (by rw [e103]; exact Ar104.1) (State.isArrayOf_alike hZ.alike Ar104.2.1) Ar104.2.2 hin104 (Has.at H104 hin104 (by rw [clamp_of q2 (by omega)]; exact hv)) (g := (mkF m 48 #[.val (.ref t), .val (.int ((j <<< (1 &&& 31)) + 1))] [(.int ((j <<< (1 &&& 31)) + 1)), (.ref t), (.int ((u &&& 255) <<< (0 &&& 31)))])) rfl rfl (hb hby d_jdk_52_method_5_48) _ kk_) ?_
  refine Fin.by (fun tt_ kk_ => XS.sipush X103.here hx rfl (hb hby d_jdk_52_method_5_49) (XS.iand X103.here hx rfl (hb hby d_jdk_52_method_5_52) rfl kk_)) ?_
  obtain ⟨T105, X105, e105, st105⟩ := getS X103 hx hZ (host := "") hown (w_ hw 94 rfl) Via.refl e103 (S8.ext OL.2) (g := (mkF m 53 #[.val (.ref t), .val (.int ((j <<< (1 &&& 31)) + 1))] [(.int (v &&& 255)), (.int ((u &&& 255) <<< (0 &&& 31)))])) rfl (hb hby d_jdk_52_method_5_53)
  refine Fin.by (fun tt_ kk_ => st105 tt_ kk_) ?_
  refine Fin.by (fun tt_ kk_ => XS.ishl X105.here hx rfl (hb hby d_jdk_52_method_5_56) rfl (XS.ior X105.here hx rfl (hb hby d_jdk_52_method_5_57) rfl (XS.i2c X105.here hx rfl (hb hby d_jdk_52_method_5_58) rfl kk_))) ?_
  show Fin _ _ _ _ _ _ _ (T105.setTop (mkF m 59 #[.val (.ref t), .val (.int ((j <<< (1 &&& 31)) + 1))] [(.int ((((u &&& 255) <<< (0 &&& 31)) ||| ((v &&& 255) <<< (8 &&& 31))).toUInt32.toUInt16.toUInt32.toInt32))]))
  exact Fin.ret (v := some (.int (nar .char ((((u &&& (255 : Int32)) <<< ((0 : Int32) &&& 31)) ||| ((v &&& (255 : Int32)) <<< ((8 : Int32) &&& 31))).toUInt32.toUInt16.toUInt32.toInt32)))) X105 (fun h => by rw [Bd.returns] at h; cases h) Bd.notSynchronized (by rw [e105]; exact ⟨rfl, N0, rfl⟩) (by decide) (by decide) (fun fs hr => retN X105 hx (t := .char) Bd.returns (by simp) (hb hby d_jdk_52_method_5_59) hr)
abbrev y_3 : MethodName := (⟨"java/lang/StringUTF16", "checkIndex", "(I[B)V"⟩ : MethodName)
abbrev y_4 : MethodName := (⟨"java/lang/StringUTF16", "getChar", "([BI)C"⟩ : MethodName)
theorem d_jdk_52_method_83_0 : decode jdk_52_method_83_code 0 = .ok (.iload_n 1, 1) := by decide +kernel
theorem d_jdk_52_method_83_1 : decode jdk_52_method_83_code 1 = .ok (.aload_n 0, 1) := by decide +kernel
theorem pd_67 : parseMethodDescriptor "(I[B)V" = some ⟨[.int, (.array .byte)], none⟩ := by decide +kernel
theorem d_jdk_52_method_83_2 : decode jdk_52_method_83_code 2 = .ok (.invokestatic 67, 3) := by decide +kernel
theorem d_jdk_52_method_83_5 : decode jdk_52_method_83_code 5 = .ok (.aload_n 0, 1) := by decide +kernel
theorem d_jdk_52_method_83_6 : decode jdk_52_method_83_code 6 = .ok (.iload_n 1, 1) := by decide +kernel
theorem pd_71 : parseMethodDescriptor "([BI)C" = some ⟨[(.array .byte), .int], some .char⟩ := by decide +kernel
theorem d_jdk_52_method_83_7 : decode jdk_52_method_83_code 7 = .ok (.invokestatic 71, 3) := by decide +kernel
theorem d_jdk_52_method_83_10 : decode jdk_52_method_83_code 10 = .ok (.ireturn, 1) := by decide +kernel
def Q_uch (Z : State) (t : Addr) (kb : ClassId) (N2 : Int32) (vs : List Value) (i : Nat) (j : Int32) (u : Int32) (v : Int32) (G9 : Value) (h0 : Heap) (n0 : Nat) (vv_ : Option Value) (hh_ : Heap) (LL_ : List Loc) : Prop := vv_ = some (.int (nar .char (nar .char (StrChars.pairCh u v)))) ∧ Fr n0 LL_ ∧ hh_ = h0
set_option maxRecDepth 65536 in
set_option maxHeartbeats 40000000 in
theorem rm_uch (l : Launch) (Z : State) (a0 : Array Value) (hw : ∀ d ∈ tables_1, d.before a0 Z = true) (ws : List Jvm.Cond) (t : Addr) (kb : ClassId) (N2 : Int32) (vs : List Value) (i : Nat) (j : Int32) (u : Int32) (v : Int32) (G9 : Value) (h0 : Heap) (n0 : Nat) (Z0 : n0 ≤ h0.size) (hj : j = Int32.ofNat i) (hlt : j < (N2 >>> ((1 : Int32) &&& 31))) (hi : 2 * i + 1 < N2.toNatClampNeg) (hb2 : N2.toNatClampNeg < 2 ^ 29) (hu : vs.getD (2 * i) (.int 0) = .int u) (hv : vs.getD (2 * i + 1) (.int 0) = .int v) (A0 : Arv Z h0 t kb .byte N2 vs (.int 0)) (S6 : Sta Z Z.heap "java/lang/StringUTF16" "$assertionsDisabled" "Z" (.int (1 : Int32))) (S7 : Sta Z Z.heap "java/lang/StringUTF16" "HI_BYTE_SHIFT" "I" (.int (0 : Int32))) (S8 : Sta Z Z.heap "java/lang/StringUTF16" "LO_BYTE_SHIFT" "I" (.int (8 : Int32))) (S9 : Sta Z Z.heap "jdk/internal/util/Preconditions" "SIOOBE_FORMATTER" "Ljava/util/function/BiFunction;" G9) (r9 : G9.isRef = true) (OL : Old Z n0 h0) :
    MetFree l (⟨"java/lang/StringUTF16", "charAt", "([BI)C"⟩ : MethodName) (head1 (Jvm.Cond.code (⟨"java/lang/StringUTF16", "charAt", "([BI)C"⟩ : MethodName) jdk_52_method_83_code 2 (some .char) :: ws) ({ frames := 3, cells := 0, slots := 0, locals := 40 } : Room)) (fun aa_ U => aa_ = #[(.ref t), (.int j)] ∧ Z.Warmed39 U.vm ∧ U.heap = h0) (fun _ _ _ _ _ => True) (fun _ U o U' => ∃ vv_ LL_, o = .returned vv_ ∧ Q_uch Z t kb N2 vs i j u v G9 h0 n0 vv_ U'.heap LL_ ∧ FrameEnd U o U' LL_ 0 0) := by
  refine MetFree.of_bodySF (plainFor_of_name pn_java_lang_StringUTF16) hisR ?_
  intro p e s m args below meth c s₁ Bd hml0 hP hK
  obtain ⟨rfl, hZ, hh⟩ := hP
  have hx := Bd.exec
  have hby := Bd.bytes
  have hml : c.maxLocals = 2 := hml0
  have hown : s.vm.findClass "java/lang/StringUTF16" = some m.cls := findClass_of_methodNamed Bd.named
  have hnm := (name_of_methodNamed Bd.named Bd.method).1
  have X0 : Stand p l e ({ frames := 3, cells := 0, slots := 0, locals := 40 } : Room) s m #[(.ref t), (.int j)] below meth c s₁ [] 0 0 := Stand.of_body Bd
  have e0 : s₁.heap = h0 := by rw [← hh, Bd.state]; rfl
  have N0 := Fr.nil n0
  have ef : entryFrame m #[(.ref t), (.int j)] 2 = mkF m 0 #[.val (.ref t), .val (.int j)] [] := by first | (simp [entryFrame, mkF, argsToLocals, Value.category]; done) | rfl
  refine Fin.start (Q := Q_uch Z t kb N2 vs i j u v G9 h0 n0) ef ?_
  refine Fin.by (fun tt_ kk_ => XS.iloadN X0.here hx rfl (hb hby d_jdk_52_method_83_0) rfl (XS.aloadN X0.here hx rfl (hb hby d_jdk_52_method_83_1) rfl rfl kk_)) ?_
  obtain ⟨v101, _, ⟨T101, L101, k101, n101⟩, -, X101, ⟨Lc101, hQ101, l101, y101, z101⟩, st101⟩ := Jvm.LawKit.callS X0 hx (y := y_3) hown (mvT hZ (w_ hw 111 rfl)) (mvT hZ (w_ hw 112 rfl)) (mvT hZ (w_ hw 71 rfl)) (mvT hZ (w_ hw 113 rfl)) (by decide) (backOf (W := 0) (rm_uck l Z a0 hw [] t kb N2 (vs : List Value) j G9 h0 n0 Z0 (by rw [hj]; exact own_notlt (by omega)) hlt A0 S9 r9 OL) hZ (w_ hw 113 rfl) (w_ hw 71 rfl) (by decide) (by decide)) (g := (mkF m 2 #[.val (.ref t), .val (.int j)] [(.ref t), (.int j)])) rfl (by rw [hml]; rfl) (argsL := [(.int j), (.ref t)]) (rest := []) (lenOf pd_67 rfl) rfl (by show 2 * 0 + _ ≤ _; exact Nat.le_of_eq rfl) (hb hby d_jdk_52_method_83_2) (fun _ _ => ⟨rfl, e0, (by decide : 0 + 0 ≤ _), (by decide : 0 + 0 ≤ _)⟩)
  dsimp only [Pt.U, Pt.locs, Pt.cells, Pt.slots] at X101 l101 y101 z101 st101 hQ101
  subst l101 y101 z101
  obtain ⟨rfl, Nq101, e101_⟩ := hQ101
  have N101_ := Fr.app N0 Nq101
  refine Fin.by (fun tt_ kk_ => st101 tt_ kk_) ?_
  have e101 := e101_
  refine Fin.by (fun tt_ kk_ => XS.aloadN X101.here hx rfl (hb hby d_jdk_52_method_83_5) rfl rfl (XS.iloadN X101.here hx rfl (hb hby d_jdk_52_method_83_6) rfl kk_)) ?_
  obtain ⟨v102, _, ⟨T102, L102, k102, n102⟩, -, X102, ⟨Lc102, hQ102, l102, y102, z102⟩, st102⟩ := Jvm.LawKit.callS X101 hx (y := y_4) hown (mvT hZ (w_ hw 95 rfl)) (mvT hZ (w_ hw 96 rfl)) (mvT hZ (w_ hw 71 rfl)) (mvT hZ (w_ hw 97 rfl)) (by decide) (backOf (W := 0) (rm_uge l Z a0 hw [] t kb N2 (vs : List Value) i j u v h0 n0 Z0 hj hi hb2 hu hv A0 S6 S7 S8 OL) hZ (w_ hw 97 rfl) (w_ hw 71 rfl) (by decide) (by decide)) (g := (mkF m 7 #[.val (.ref t), .val (.int j)] [(.int j), (.ref t)])) rfl (by rw [hml]; rfl) (argsL := [(.ref t), (.int j)]) (rest := []) (lenOf pd_71 rfl) rfl (by show 2 * 0 + _ ≤ _; exact Nat.le_of_eq rfl) (hb hby d_jdk_52_method_83_7) (fun _ _ => ⟨rfl, e101, (by decide : 0 + 0 ≤ _), (by decide : 0 + 0 ≤ _)⟩)
  dsimp only [Pt.U, Pt.locs, Pt.cells, Pt.slots] at X102 l102 y102 z102 st102 hQ102
  subst l102 y102 z102
  obtain ⟨rfl, Nq102, e102_⟩ := hQ102
  have N102_ := Fr.app N101_ Nq102
  refine Fin.by (fun tt_ kk_ => st102 tt_ kk_) ?_
  have e102 := e102_
  show Fin _ _ _ _ _ _ _ (T102.setTop (mkF m 10 #[.val (.ref t), .val (.int j)] [(.int (nar .char (StrChars.pairCh u v)))]))
  exact Fin.ret (v := some (.int (nar .char (nar .char (StrChars.pairCh u v))))) X102 (fun h => by rw [Bd.returns] at h; cases h) Bd.notSynchronized (by rw [e102]; exact ⟨rfl, N102_, rfl⟩) (by decide) (by decide) (fun fs hr => retN X102 hx (t := .char) Bd.returns (by simp) (hb hby d_jdk_52_method_83_10) hr)
theorem d_jdk_42_method_154_0 : decode jdk_42_method_154_code 0 = .ok (.getstatic 38, 3) := by decide +kernel
theorem d_jdk_42_method_154_3 : decode jdk_42_method_154_code 3 = .ok (.ifCond .eq 14, 3) := by decide +kernel
theorem d_jdk_42_method_154_6 : decode jdk_42_method_154_code 6 = .ok (.aload_n 0, 1) := by decide +kernel
theorem d_jdk_42_method_154_7 : decode jdk_42_method_154_code 7 = .ok (.getfield 15, 3) := by decide +kernel
theorem d_jdk_42_method_154_10 : decode jdk_42_method_154_code 10 = .ok (.ifCond .ne 7, 3) := by decide +kernel
theorem d_jdk_42_method_154_13 : decode jdk_42_method_154_code 13 = .ok (.iconst 1, 1) := by decide +kernel
theorem d_jdk_42_method_154_14 : decode jdk_42_method_154_code 14 = .ok (.goto 4, 3) := by decide +kernel
theorem d_jdk_42_method_154_18 : decode jdk_42_method_154_code 18 = .ok (.ireturn, 1) := by decide +kernel
def Q_isl0 (Z : State) (x : Addr) (G1 : Int32) (h0 : Heap) (n0 : Nat) (vv_ : Option Value) (hh_ : Heap) (LL_ : List Loc) : Prop := vv_ = some (.int (nar .boolean (1 : Int32))) ∧ Fr n0 LL_ ∧ hh_ = h0
set_option maxRecDepth 65536 in
set_option maxHeartbeats 40000000 in
theorem rm_isl0 (l : Launch) (Z : State) (a0 : Array Value) (hw : ∀ d ∈ tables_1, d.before a0 Z = true) (ws : List Jvm.Cond) (x : Addr) (G1 : Int32) (h0 : Heap) (n0 : Nat) (Z0 : n0 ≤ h0.size) (F1 : Fld Z h0 x "java/lang/String" "coder" "B" (.int (0 : Int32))) (S1 : Sta Z Z.heap "java/lang/String" "COMPACT_STRINGS" "Z" (.int G1)) (P1 : ¬ G1 = 0) (OL : Old Z n0 h0) :
    MetFree l (⟨"java/lang/String", "isLatin1", "()Z"⟩ : MethodName) (head1 (Jvm.Cond.code (⟨"java/lang/String", "isLatin1", "()Z"⟩ : MethodName) jdk_42_method_154_code 1 (some .boolean) :: ws) ({ frames := 0, cells := 0, slots := 0, locals := 0 } : Room)) (fun aa_ U => aa_ = #[(.ref x)] ∧ Z.Warmed39 U.vm ∧ U.heap = h0) (fun _ _ _ _ _ => True) (fun _ U o U' => ∃ vv_ LL_, o = .returned vv_ ∧ Q_isl0 Z x G1 h0 n0 vv_ U'.heap LL_ ∧ FrameEnd U o U' LL_ 0 0) := by
  refine MetFree.of_bodySF (plainFor_of_name pn_java_lang_String) hisR ?_
  intro p e s m args below meth c s₁ Bd hml0 hP hK
  obtain ⟨rfl, hZ, hh⟩ := hP
  have hx := Bd.exec
  have hby := Bd.bytes
  have hml : c.maxLocals = 1 := hml0
  have hown : s.vm.findClass "java/lang/String" = some m.cls := findClass_of_methodNamed Bd.named
  have hnm := (name_of_methodNamed Bd.named Bd.method).1
  have X0 : Stand p l e ({ frames := 0, cells := 0, slots := 0, locals := 0 } : Room) s m #[(.ref x)] below meth c s₁ [] 0 0 := Stand.of_body Bd
  have e0 : s₁.heap = h0 := by rw [← hh, Bd.state]; rfl
  have N0 := Fr.nil n0
  have ef : entryFrame m #[(.ref x)] 1 = mkF m 0 #[.val (.ref x)] [] := by first | (simp [entryFrame, mkF, argsToLocals, Value.category]; done) | rfl
  refine Fin.start (Q := Q_isl0 Z x G1 h0 n0) ef ?_
  obtain ⟨T101, X101, e101, st101⟩ := getS X0 hx hZ (host := "") hown (w_ hw 68 rfl) Via.refl e0 (S1.ext OL.2) (g := (mkF m 0 #[.val (.ref x)] [])) rfl (hb hby d_jdk_42_method_154_0)
  refine Fin.by (fun tt_ kk_ => st101 tt_ kk_) ?_
  show Fin _ _ _ _ _ _ _ (T101.setTop (mkF m 3 #[.val (.ref x)] [(.int G1)]))
  refine Fin.by (fun tt_ kk_ => XS.ifNo X101.here hx rfl (hb hby d_jdk_42_method_154_3) rfl ((if0 _ _).trans (feq (P1 : ¬ G1 = (0 : Int32))).1) kk_) ?_
  refine Fin.by (fun tt_ kk_ => XS.aloadN X101.here hx rfl (hb hby d_jdk_42_method_154_6) rfl rfl kk_) ?_
  obtain ⟨T102, X102, e102, st102⟩ := getF X101 hx hZ hown (host := "") (Or.inl (w_ hw 27 rfl)) Via.refl e101 F1 (g := (mkF m 7 #[.val (.ref x)] [(.ref x)])) rfl rfl (hb hby d_jdk_42_method_154_7)
  refine Fin.by (fun tt_ kk_ => st102 tt_ kk_) ?_
  show Fin _ _ _ _ _ _ _ (T102.setTop (mkF m 10 #[.val (.ref x)] [(.int 0)]))
  refine Fin.by (fun tt_ kk_ => XS.ifNo X102.here hx rfl (hb hby d_jdk_42_method_154_10) rfl ((if0 _ _).trans (teq (by decide : (0 : Int32) = (0 : Int32))).2) kk_) ?_
  refine Fin.by (fun tt_ kk_ => XS.iconst X102.here hx rfl (hb hby d_jdk_42_method_154_13) (XS.goto X102.here hx rfl (pc0 := 14) (pc' := 18) rfl (hb hby d_jdk_42_method_154_14) (by decide) (by decide) kk_)) ?_
  show Fin _ _ _ _ _ _ _ (T102.setTop (mkF m 18 #[.val (.ref x)] [(.int 1)]))
  exact Fin.ret (v := some (.int (nar .boolean (1 : Int32)))) X102 (fun h => by rw [Bd.returns] at h; cases h) Bd.notSynchronized (by rw [e102]; exact ⟨rfl, N0, rfl⟩) (by decide) (by decide) (fun fs hr => retN X102 hx (t := .boolean) Bd.returns (by simp) (hb hby d_jdk_42_method_154_18) hr)
theorem d_jdk_42_method_154_17 : decode jdk_42_method_154_code 17 = .ok (.iconst 0, 1) := by decide +kernel
def Q_isl1 (Z : State) (x : Addr) (G1 : Int32) (h0 : Heap) (n0 : Nat) (vv_ : Option Value) (hh_ : Heap) (LL_ : List Loc) : Prop := vv_ = some (.int (nar .boolean (0 : Int32))) ∧ Fr n0 LL_ ∧ hh_ = h0
set_option maxRecDepth 65536 in
set_option maxHeartbeats 40000000 in
theorem rm_isl1 (l : Launch) (Z : State) (a0 : Array Value) (hw : ∀ d ∈ tables_1, d.before a0 Z = true) (ws : List Jvm.Cond) (x : Addr) (G1 : Int32) (h0 : Heap) (n0 : Nat) (Z0 : n0 ≤ h0.size) (F1 : Fld Z h0 x "java/lang/String" "coder" "B" (.int (1 : Int32))) (S1 : Sta Z Z.heap "java/lang/String" "COMPACT_STRINGS" "Z" (.int G1)) (P1 : ¬ G1 = 0) (OL : Old Z n0 h0) :
    MetFree l (⟨"java/lang/String", "isLatin1", "()Z"⟩ : MethodName) (head1 (Jvm.Cond.code (⟨"java/lang/String", "isLatin1", "()Z"⟩ : MethodName) jdk_42_method_154_code 1 (some .boolean) :: ws) ({ frames := 0, cells := 0, slots := 0, locals := 0 } : Room)) (fun aa_ U => aa_ = #[(.ref x)] ∧ Z.Warmed39 U.vm ∧ U.heap = h0) (fun _ _ _ _ _ => True) (fun _ U o U' => ∃ vv_ LL_, o = .returned vv_ ∧ Q_isl1 Z x G1 h0 n0 vv_ U'.heap LL_ ∧ FrameEnd U o U' LL_ 0 0) := by
  refine MetFree.of_bodySF (plainFor_of_name pn_java_lang_String) hisR ?_
  intro p e s m args below meth c s₁ Bd hml0 hP hK
  obtain ⟨rfl, hZ, hh⟩ := hP
  have hx := Bd.exec
  have hby := Bd.bytes
  have hml : c.maxLocals = 1 := hml0
  have hown : s.vm.findClass "java/lang/String" = some m.cls := findClass_of_methodNamed Bd.named
  have hnm := (name_of_methodNamed Bd.named Bd.method).1
  have X0 : Stand p l e ({ frames := 0, cells := 0, slots := 0, locals := 0 } : Room) s m #[(.ref x)] below meth c s₁ [] 0 0 := Stand.of_body Bd
  have e0 : s₁.heap = h0 := by rw [← hh, Bd.state]; rfl
  have N0 := Fr.nil n0
  have ef : entryFrame m #[(.ref x)] 1 = mkF m 0 #[.val (.ref x)] [] := by first | (simp [entryFrame, mkF, argsToLocals, Value.category]; done) | rfl
  refine Fin.start (Q := Q_isl1 Z x G1 h0 n0) ef ?_
  obtain ⟨T101, X101, e101, st101⟩ := getS X0 hx hZ (host := "") hown (w_ hw 68 rfl) Via.refl e0 (S1.ext OL.2) (g := (mkF m 0 #[.val (.ref x)] [])) rfl (hb hby d_jdk_42_method_154_0)
  refine Fin.by (fun tt_ kk_ => st101 tt_ kk_) ?_
  show Fin _ _ _ _ _ _ _ (T101.setTop (mkF m 3 #[.val (.ref x)] [(.int G1)]))
  refine Fin.by (fun tt_ kk_ => XS.ifNo X101.here hx rfl (hb hby d_jdk_42_method_154_3) rfl ((if0 _ _).trans (feq (P1 : ¬ G1 = (0 : Int32))).1) kk_) ?_
  refine Fin.by (fun tt_ kk_ => XS.aloadN X101.here hx rfl (hb hby d_jdk_42_method_154_6) rfl rfl kk_) ?_
  obtain ⟨T102, X102, e102, st102⟩ := getF X101 hx hZ hown (host := "") (Or.inl (w_ hw 27 rfl)) Via.refl e101 F1 (g := (mkF m 7 #[.val (.ref x)] [(.ref x)])) rfl rfl (hb hby d_jdk_42_method_154_7)
  refine Fin.by (fun tt_ kk_ => st102 tt_ kk_) ?_
  show Fin _ _ _ _ _ _ _ (T102.setTop (mkF m 10 #[.val (.ref x)] [(.int 1)]))
  refine Fin.by (fun tt_ kk_ => XS.ifYes X102.here hx rfl (pc0 := 10) (pc' := 17) rfl (hb hby d_jdk_42_method_154_10) rfl ((if0 _ _).trans (feq (by decide : ¬ (1 : Int32) = (0 : Int32))).2) (by decide) (by decide) kk_) ?_
  refine Fin.by (fun tt_ kk_ => XS.iconst X102.here hx rfl (hb hby d_jdk_42_method_154_17) kk_) ?_
  show Fin _ _ _ _ _ _ _ (T102.setTop (mkF m 18 #[.val (.ref x)] [(.int 0)]))
  exact Fin.ret (v := some (.int (nar .boolean (0 : Int32)))) X102 (fun h => by rw [Bd.returns] at h; cases h) Bd.notSynchronized (by rw [e102]; exact ⟨rfl, N0, rfl⟩) (by decide) (by decide) (fun fs hr => retN X102 hx (t := .boolean) Bd.returns (by simp) (hb hby d_jdk_42_method_154_18) hr)
abbrev y_5 : MethodName := (⟨"java/lang/String", "isLatin1", "()Z"⟩ : MethodName)
abbrev y_6 : MethodName := (⟨"java/lang/StringLatin1", "charAt", "([BI)C"⟩ : MethodName)
abbrev y_7 : MethodName := (⟨"java/lang/StringUTF16", "charAt", "([BI)C"⟩ : MethodName)
theorem d_jdk_42_method_56_0 : decode jdk_42_method_56_code 0 = .ok (.aload_n 0, 1) := by decide +kernel
theorem pd_84 : parseMethodDescriptor "()Z" = some ⟨[], some .boolean⟩ := by decide +kernel
theorem d_jdk_42_method_56_1 : decode jdk_42_method_56_code 1 = .ok (.invokevirtual 492, 3) := by decide +kernel
theorem d_jdk_42_method_56_4 : decode jdk_42_method_56_code 4 = .ok (.ifCond .eq 12, 3) := by decide +kernel
theorem d_jdk_42_method_56_7 : decode jdk_42_method_56_code 7 = .ok (.aload_n 0, 1) := by decide +kernel
theorem d_jdk_42_method_56_8 : decode jdk_42_method_56_code 8 = .ok (.getfield 9, 3) := by decide +kernel
theorem d_jdk_42_method_56_11 : decode jdk_42_method_56_code 11 = .ok (.iload_n 1, 1) := by decide +kernel
theorem d_jdk_42_method_56_12 : decode jdk_42_method_56_code 12 = .ok (.invokestatic 495, 3) := by decide +kernel
theorem d_jdk_42_method_56_15 : decode jdk_42_method_56_code 15 = .ok (.ireturn, 1) := by decide +kernel
theorem d_jdk_42_method_56_16 : decode jdk_42_method_56_code 16 = .ok (.aload_n 0, 1) := by decide +kernel
theorem d_jdk_42_method_56_17 : decode jdk_42_method_56_code 17 = .ok (.getfield 9, 3) := by decide +kernel
theorem d_jdk_42_method_56_20 : decode jdk_42_method_56_code 20 = .ok (.iload_n 1, 1) := by decide +kernel
theorem d_jdk_42_method_56_21 : decode jdk_42_method_56_code 21 = .ok (.invokestatic 498, 3) := by decide +kernel
theorem d_jdk_42_method_56_24 : decode jdk_42_method_56_code 24 = .ok (.ireturn, 1) := by decide +kernel
def Q_chA (Z : State) (x : Addr) (t : Addr) (kb : ClassId) (N2 : Int32) (vs : List Value) (cs : List Int32) (cd : Int32) (i : Nat) (j : Int32) (G1 : Int32) (G9 : Value) (h0 : Heap) (n0 : Nat) (vv_ : Option Value) (hh_ : Heap) (LL_ : List Loc) : Prop := vv_ = some (.int (cs.getD i 0)) ∧ Fr n0 LL_ ∧ hh_ = h0
set_option maxRecDepth 65536 in
set_option maxHeartbeats 40000000 in
theorem rm_chA (l : Launch) (Z : State) (a0 : Array Value) (hw : ∀ d ∈ tables_1, d.before a0 Z = true) (ws : List Jvm.Cond) (x : Addr) (t : Addr) (kb : ClassId) (N2 : Int32) (vs : List Value) (cs : List Int32) (cd : Int32) (i : Nat) (j : Int32) (G1 : Int32) (G9 : Value) (h0 : Heap) (n0 : Nat) (Z0 : n0 ≤ h0.size) (hc : StrChars.Road.CodA cs cd N2 vs) (hb3 : ∀ c ∈ cs, ¬ c < 0 ∧ ¬ (65535 : Int32) < c) (l2 : cs.length ≤ 4000) (hi : i < cs.length) (hj : j = Int32.ofNat i) (E0 : Exa Z h0 x "java/lang/String") (F0 : Fld Z h0 x "java/lang/String" "value" "[B" (.ref t)) (F1 : Fld Z h0 x "java/lang/String" "coder" "B" (.int cd)) (A0 : Arv Z h0 t kb .byte N2 vs (.int 0)) (S1 : Sta Z Z.heap "java/lang/String" "COMPACT_STRINGS" "Z" (.int G1)) (P1 : ¬ G1 = 0) (S6 : Sta Z Z.heap "java/lang/StringUTF16" "$assertionsDisabled" "Z" (.int (1 : Int32))) (S7 : Sta Z Z.heap "java/lang/StringUTF16" "HI_BYTE_SHIFT" "I" (.int (0 : Int32))) (S8 : Sta Z Z.heap "java/lang/StringUTF16" "LO_BYTE_SHIFT" "I" (.int (8 : Int32))) (S9 : Sta Z Z.heap "jdk/internal/util/Preconditions" "SIOOBE_FORMATTER" "Ljava/util/function/BiFunction;" G9) (r9 : G9.isRef = true) (OL : Old Z n0 h0) :
    MetFree l (⟨"java/lang/String", "charAt", "(I)C"⟩ : MethodName) (head1 (Jvm.Cond.code (⟨"java/lang/String", "charAt", "(I)C"⟩ : MethodName) jdk_42_method_56_code 2 (some .char) :: ws) ({ frames := 4, cells := 0, slots := 0, locals := 53 } : Room)) (fun aa_ U => aa_ = #[(.ref x), (.int j)] ∧ Z.Warmed39 U.vm ∧ U.heap = h0) (fun _ _ _ _ _ => True) (fun _ U o U' => ∃ vv_ LL_, o = .returned vv_ ∧ Q_chA Z x t kb N2 vs cs cd i j G1 G9 h0 n0 vv_ U'.heap LL_ ∧ FrameEnd U o U' LL_ 0 0) := by
  refine MetFree.of_bodySF (plainFor_of_name pn_java_lang_String) hisR ?_
  intro p e s m args below meth c s₁ Bd hml0 hP hK
  obtain ⟨rfl, hZ, hh⟩ := hP
  have hx := Bd.exec
  have hby := Bd.bytes
  have hml : c.maxLocals = 2 := hml0
  have hown : s.vm.findClass "java/lang/String" = some m.cls := findClass_of_methodNamed Bd.named
  have hnm := (name_of_methodNamed Bd.named Bd.method).1
  have X0 : Stand p l e ({ frames := 4, cells := 0, slots := 0, locals := 53 } : Room) s m #[(.ref x), (.int j)] below meth c s₁ [] 0 0 := Stand.of_body Bd
  have e0 : s₁.heap = h0 := by rw [← hh, Bd.state]; rfl
  have N0 := Fr.nil n0
  have ef : entryFrame m #[(.ref x), (.int j)] 2 = mkF m 0 #[.val (.ref x), .val (.int j)] [] := by first | (simp [entryFrame, mkF, argsToLocals, Value.category]; done) | rfl
  refine Fin.start (Q := Q_chA Z x t kb N2 vs cs cd i j G1 G9 h0 n0) ef ?_
  rcases id hc with ⟨hcd, hN2, hvs, hlat⟩ | ⟨hcd, hN2, hvs, -⟩
  · subst hcd
    have hlen : N2.toNatClampNeg = cs.length := by rw [hN2]; exact clamp_of rfl (by omega)
    refine Fin.by (fun tt_ kk_ => XS.aloadN X0.here hx rfl (hb hby d_jdk_42_method_56_0) rfl rfl kk_) ?_
    obtain ⟨cq101, kq101, qa101, qb101, qc101⟩ := isOf hZ e0 E0
    obtain ⟨v101, _, ⟨T101, L101, k101, n101⟩, -, X101, ⟨Lc101, hQ101, l101, y101, z101⟩, st101⟩ := X0.virtualBack hx (y := y_5) (z := y_5) hown (mvT hZ (w_ hw 103 rfl)) (mvT hZ (w_ hw 104 rfl)) (notFace_of_selects (args := #[]) (mvT hZ (w_ hw 106 rfl))) (mvT hZ (w_ hw 106 rfl)) (mvT hZ (w_ hw 105 rfl)) (by decide) (backOf (W := 0) (rm_isl0 l Z a0 hw [] x G1 h0 n0 Z0 F1 S1 P1 OL) hZ (w_ hw 107 rfl) (w_ hw 8 rfl) (by decide) (by decide)) qa101 qc101 (g := (mkF m 1 #[.val (.ref x), .val (.int j)] [(.ref x)])) rfl (by rw [hml]; rfl) (Steps.refl _) (argsL := []) (rest := []) (lenOf pd_84 rfl) rfl (by show 2 * 0 + _ ≤ _; exact Nat.le_of_eq rfl) (hb hby d_jdk_42_method_56_1) (fun _ _ => ⟨rfl, e0, (by decide : 0 + 0 ≤ _), (by decide : 0 + 0 ≤ _)⟩)
    dsimp only [Pt.U, Pt.locs, Pt.cells, Pt.slots] at X101 l101 y101 z101 st101 hQ101
    subst l101 y101 z101
    obtain ⟨rfl, Nq101, e101_⟩ := hQ101
    have N101_ := Fr.app N0 Nq101
    refine Fin.byS st101 ?_
    have e101 := e101_
    show Fin _ _ _ _ _ _ _ (T101.setTop (mkF m 4 #[.val (.ref x), .val (.int j)] [(.int (nar .boolean 1))]))
    refine Fin.by (fun tt_ kk_ => XS.ifNo X101.here hx rfl (hb hby d_jdk_42_method_56_4) rfl ((if0 _ _).trans (feq (by decide : ¬ (nar .boolean (1 : Int32)) = (0 : Int32))).1) kk_) ?_
    refine Fin.by (fun tt_ kk_ => XS.aloadN X101.here hx rfl (hb hby d_jdk_42_method_56_7) rfl rfl kk_) ?_
    obtain ⟨T102, X102, e102, st102⟩ := getF X101 hx hZ hown (host := "") (Or.inl (w_ hw 26 rfl)) Via.refl e101 F0 (g := (mkF m 8 #[.val (.ref x), .val (.int j)] [(.ref x)])) rfl rfl (hb hby d_jdk_42_method_56_8)
    refine Fin.by (fun tt_ kk_ => st102 tt_ kk_) ?_
    refine Fin.by (fun tt_ kk_ => XS.iloadN X102.here hx rfl (hb hby d_jdk_42_method_56_11) rfl kk_) ?_
    obtain ⟨v103, _, ⟨T103, L103, k103, n103⟩, -, X103, ⟨Lc103, hQ103, l103, y103, z103⟩, st103⟩ := Jvm.LawKit.callS X102 hx (y := y_6) hown (mvT hZ (w_ hw 125 rfl)) (mvT hZ (w_ hw 126 rfl)) (mvT hZ (w_ hw 127 rfl)) (mvT hZ (w_ hw 128 rfl)) (by decide) (backOf (W := 0) (rm_lch l Z a0 hw [] t kb N2 (vs : List Value) i j (StrChars.lo8 (cs.getD i 0)) G9 h0 n0 Z0 hj (by rw [hj, hN2]; exact own_ltn hi (by omega)) (by omega) (by omega) (by rw [hvs]; exact StrChars.Road.low_at _ _ _ hi) A0 S9 r9 OL) hZ (w_ hw 128 rfl) (w_ hw 127 rfl) (by decide) (by decide)) (g := (mkF m 12 #[.val (.ref x), .val (.int j)] [(.int j), (.ref t)])) rfl (by rw [hml]; rfl) (argsL := [(.ref t), (.int j)]) (rest := []) (lenOf pd_71 rfl) rfl (by show 2 * 0 + _ ≤ _; exact Nat.le_of_eq rfl) (hb hby d_jdk_42_method_56_12) (fun _ _ => ⟨rfl, e102, (by decide : 0 + 0 ≤ _), (by decide : 0 + 0 ≤ _)⟩)
    dsimp only [Pt.U, Pt.locs, Pt.cells, Pt.slots] at X103 l103 y103 z103 st103 hQ103
    subst l103 y103 z103
    obtain ⟨rfl, Nq103, e103_⟩ := hQ103
    have N103_ := Fr.app N101_ Nq103
    refine Fin.by (fun tt_ kk_ => st103 tt_ kk_) ?_
    have e103 := e103_
    show Fin _ _ _ _ _ _ _ (T103.setTop (mkF m 15 #[.val (.ref x), .val (.int j)] [(.int (nar .char (((StrChars.lo8 (cs.getD i 0)) &&& 255).toUInt32.toUInt16.toUInt32.toInt32)))]))
    exact Fin.ret (v := some (.int (nar .char (nar .char (((StrChars.lo8 (cs.getD i 0)) &&& (255 : Int32)).toUInt32.toUInt16.toUInt32.toInt32))))) X103 (fun h => by rw [Bd.returns] at h; cases h) Bd.notSynchronized (by rw [e103]; exact ⟨(congrArg (fun q => some (Value.int q)) (own_lat hb3 hlat hi).symm).symm, N103_, rfl⟩) (by decide) (by decide) (fun fs hr => retN X103 hx (t := .char) Bd.returns (by simp) (hb hby d_jdk_42_method_56_15) hr)
  · subst hcd
    have hlen : N2.toNatClampNeg = 2 * cs.length := by rw [hN2]; exact clamp_of rfl (by omega)
    refine Fin.by (fun tt_ kk_ => XS.aloadN X0.here hx rfl (hb hby d_jdk_42_method_56_0) rfl rfl kk_) ?_
    obtain ⟨cq104, kq104, qa104, qb104, qc104⟩ := isOf hZ e0 E0
    obtain ⟨v104, _, ⟨T104, L104, k104, n104⟩, -, X104, ⟨Lc104, hQ104, l104, y104, z104⟩, st104⟩ := X0.virtualBack hx (y := y_5) (z := y_5) hown (mvT hZ (w_ hw 103 rfl)) (mvT hZ (w_ hw 104 rfl)) (notFace_of_selects (args := #[]) (mvT hZ (w_ hw 106 rfl))) (mvT hZ (w_ hw 106 rfl)) (mvT hZ (w_ hw 105 rfl)) (by decide) (backOf (W := 0) (rm_isl1 l Z a0 hw [] x G1 h0 n0 Z0 F1 S1 P1 OL) hZ (w_ hw 107 rfl) (w_ hw 8 rfl) (by decide) (by decide)) qa104 qc104 (g := (mkF m 1 #[.val (.ref x), .val (.int j)] [(.ref x)])) rfl (by rw [hml]; rfl) (Steps.refl _) (argsL := []) (rest := []) (lenOf pd_84 rfl) rfl (by show 2 * 0 + _ ≤ _; exact Nat.le_of_eq rfl) (hb hby d_jdk_42_method_56_1) (fun _ _ => ⟨rfl, e0, (by decide : 0 + 0 ≤ _), (by decide : 0 + 0 ≤ _)⟩)
    dsimp only [Pt.U, Pt.locs, Pt.cells, Pt.slots] at X104 l104 y104 z104 st104 hQ104
    subst l104 y104 z104
    obtain ⟨rfl, Nq104, e104_⟩ := hQ104
    have N104_ := Fr.app N0 Nq104
    refine Fin.byS st104 ?_
    have e104 := e104_
    show Fin _ _ _ _ _ _ _ (T104.setTop (mkF m 4 #[.val (.ref x), .val (.int j)] [(.int (nar .boolean 0))]))
    refine Fin.by (fun tt_ kk_ => XS.ifYes X104.here hx rfl (pc0 := 4) (pc' := 16) rfl (hb hby d_jdk_42_method_56_4) rfl ((if0 _ _).trans (teq (by decide : (nar .boolean (0 : Int32)) = (0 : Int32))).1) (by decide) (by decide) kk_) ?_
    refine Fin.by (fun tt_ kk_ => XS.aloadN X104.here hx rfl (hb hby d_jdk_42_method_56_16) rfl rfl kk_) ?_
    obtain ⟨T105, X105, e105, st105⟩ := getF X104 hx hZ hown (host := "") (Or.inl (w_ hw 26 rfl)) Via.refl e104 F0 (g := (mkF m 17 #[.val (.ref x), .val (.int j)] [(.ref x)])) rfl rfl (hb hby d_jdk_42_method_56_17)
    refine Fin.by (fun tt_ kk_ => st105 tt_ kk_) ?_
    refine Fin.by (fun tt_ kk_ => XS.iloadN X105.here hx rfl (hb hby d_jdk_42_method_56_20) rfl kk_) ?_
    obtain ⟨v106, _, ⟨T106, L106, k106, n106⟩, -, X106, ⟨Lc106, hQ106, l106, y106, z106⟩, st106⟩ := Jvm.LawKit.callS X105 hx (y := y_7) hown (mvT hZ (w_ hw 108 rfl)) (mvT hZ (w_ hw 109 rfl)) (mvT hZ (w_ hw 71 rfl)) (mvT hZ (w_ hw 110 rfl)) (by decide) (backOf (W := 0) (rm_uch l Z a0 hw [] t kb N2 (vs : List Value) i j (StrChars.lo8 (cs.getD i 0)) (StrChars.hi8 (cs.getD i 0)) G9 h0 n0 Z0 hj (by rw [hj, hN2, StrChars.shr1 (by omega)]; exact own_ltn hi (by omega)) (by omega) (by omega) (by rw [hvs]; exact StrChars.Road.wide_lo _ _ _ hi) (by rw [hvs]; exact StrChars.Road.wide_hi _ _ _ hi) A0 S6 S7 S8 S9 r9 OL) hZ (w_ hw 110 rfl) (w_ hw 71 rfl) (by decide) (by decide)) (g := (mkF m 21 #[.val (.ref x), .val (.int j)] [(.int j), (.ref t)])) rfl (by rw [hml]; rfl) (argsL := [(.ref t), (.int j)]) (rest := []) (lenOf pd_71 rfl) rfl (by show 2 * 0 + _ ≤ _; exact Nat.le_of_eq rfl) (hb hby d_jdk_42_method_56_21) (fun _ _ => ⟨rfl, e105, (by decide : 0 + 0 ≤ _), (by decide : 0 + 0 ≤ _)⟩)
    dsimp only [Pt.U, Pt.locs, Pt.cells, Pt.slots] at X106 l106 y106 z106 st106 hQ106
    subst l106 y106 z106
    obtain ⟨rfl, Nq106, e106_⟩ := hQ106
    have N106_ := Fr.app N104_ Nq106
    refine Fin.by (fun tt_ kk_ => st106 tt_ kk_) ?_
    have e106 := e106_
    show Fin _ _ _ _ _ _ _ (T106.setTop (mkF m 24 #[.val (.ref x), .val (.int j)] [(.int (nar .char (nar .char (StrChars.pairCh (StrChars.lo8 (cs.getD i 0)) (StrChars.hi8 (cs.getD i 0))))))]))
    exact Fin.ret (v := some (.int (nar .char (nar .char (nar .char (StrChars.pairCh (StrChars.lo8 (cs.getD i 0)) (StrChars.hi8 (cs.getD i 0)))))))) X106 (fun h => by rw [Bd.returns] at h; cases h) Bd.notSynchronized (by rw [e106]; exact ⟨(congrArg (fun q => some (Value.int q)) (own_wid hb3 hi).symm).symm, N106_, rfl⟩) (by decide) (by decide) (fun fs hr => retN X106 hx (t := .char) Bd.returns (by simp) (hb hby d_jdk_42_method_56_24) hr)
theorem d_jdk_52_method_4_0 : decode jdk_52_method_4_code 0 = .ok (.getstatic 44, 3) := by decide +kernel
theorem d_jdk_52_method_4_3 : decode jdk_52_method_4_code 3 = .ok (.ifCond .ne 25, 3) := by decide +kernel
theorem d_jdk_52_method_4_28 : decode jdk_52_method_4_code 28 = .ok (.iload_n 1, 1) := by decide +kernel
theorem d_jdk_52_method_4_29 : decode jdk_52_method_4_code 29 = .ok (.iconst 1, 1) := by decide +kernel
theorem d_jdk_52_method_4_30 : decode jdk_52_method_4_code 30 = .ok (.ishl, 1) := by decide +kernel
theorem d_jdk_52_method_4_31 : decode jdk_52_method_4_code 31 = .ok (.istore_n 1, 1) := by decide +kernel
theorem d_jdk_52_method_4_32 : decode jdk_52_method_4_code 32 = .ok (.aload_n 0, 1) := by decide +kernel
theorem d_jdk_52_method_4_33 : decode jdk_52_method_4_code 33 = .ok (.iload_n 1, 1) := by decide +kernel
theorem d_jdk_52_method_4_34 : decode jdk_52_method_4_code 34 = .ok (.iinc 1 1, 3) := by decide +kernel
theorem d_jdk_52_method_4_37 : decode jdk_52_method_4_code 37 = .ok (.iload_n 2, 1) := by decide +kernel
theorem d_jdk_52_method_4_38 : decode jdk_52_method_4_code 38 = .ok (.getstatic 59, 3) := by decide +kernel
theorem d_jdk_52_method_4_41 : decode jdk_52_method_4_code 41 = .ok (.ishr, 1) := by decide +kernel
theorem d_jdk_52_method_4_42 : decode jdk_52_method_4_code 42 = .ok (.i2b, 1) := by decide +kernel
theorem d_jdk_52_method_4_43 : decode jdk_52_method_4_code 43 = .ok (.bastore, 1) := by decide +kernel
theorem d_jdk_52_method_4_44 : decode jdk_52_method_4_code 44 = .ok (.aload_n 0, 1) := by decide +kernel
theorem d_jdk_52_method_4_45 : decode jdk_52_method_4_code 45 = .ok (.iload_n 1, 1) := by decide +kernel
theorem d_jdk_52_method_4_46 : decode jdk_52_method_4_code 46 = .ok (.iload_n 2, 1) := by decide +kernel
theorem d_jdk_52_method_4_47 : decode jdk_52_method_4_code 47 = .ok (.getstatic 63, 3) := by decide +kernel
theorem d_jdk_52_method_4_50 : decode jdk_52_method_4_code 50 = .ok (.ishr, 1) := by decide +kernel
theorem d_jdk_52_method_4_51 : decode jdk_52_method_4_code 51 = .ok (.i2b, 1) := by decide +kernel
theorem d_jdk_52_method_4_52 : decode jdk_52_method_4_code 52 = .ok (.bastore, 1) := by decide +kernel
theorem d_jdk_52_method_4_53 : decode jdk_52_method_4_code 53 = .ok (.return_, 1) := by decide +kernel
def Q_pch0 (Z : State) (d : Addr) (kd : ClassId) (N2 : Int32) (vs : List Value) (x : Int32) (h0 : Heap) (n0 : Nat) (vv_ : Option Value) (hh_ : Heap) (LL_ : List Loc) : Prop := vv_ = none ∧ Fr n0 LL_ ∧ Keep h0 hh_ [d] ∧ Arv Z hh_ d kd .byte N2 (((vs).set 0 (.int (((x >>> ((0 : Int32) &&& 31)).toInt8.toInt32).toInt8.toInt32))).set 1 (.int (((x >>> ((8 : Int32) &&& 31)).toInt8.toInt32).toInt8.toInt32))) (.int (0 : Int32))
set_option maxRecDepth 65536 in
set_option maxHeartbeats 40000000 in
theorem rm_pch0 (l : Launch) (Z : State) (a0 : Array Value) (hw : ∀ d ∈ tables_1, d.before a0 Z = true) (ws : List Jvm.Cond) (d : Addr) (kd : ClassId) (N2 : Int32) (vs : List Value) (x : Int32) (h0 : Heap) (n0 : Nat) (Z0 : n0 ≤ h0.size) (hl0 : 0 < vs.length) (hl1 : 1 < vs.length) (hN0 : (0 : Int32) < N2) (hN1 : (1 : Int32) < N2) (A0 : Arv Z h0 d kd .byte N2 vs (.int (0 : Int32))) (gd : n0 ≤ d) (S6 : Sta Z Z.heap "java/lang/StringUTF16" "$assertionsDisabled" "Z" (.int (1 : Int32))) (S7 : Sta Z Z.heap "java/lang/StringUTF16" "HI_BYTE_SHIFT" "I" (.int (0 : Int32))) (S8 : Sta Z Z.heap "java/lang/StringUTF16" "LO_BYTE_SHIFT" "I" (.int (8 : Int32))) (OL : Old Z n0 h0) :
    MetFree l (⟨"java/lang/StringUTF16", "putChar", "([BII)V"⟩ : MethodName) (head1 (Jvm.Cond.code (⟨"java/lang/StringUTF16", "putChar", "([BII)V"⟩ : MethodName) jdk_52_method_4_code 3 none :: ws) ({ frames := 0, cells := 0, slots := 0, locals := 0 } : Room)) (fun aa_ U => aa_ = #[(.ref d), (.int (0 : Int32)), (.int x)] ∧ Z.Warmed39 U.vm ∧ U.heap = h0) (fun _ _ _ _ _ => True) (fun _ U o U' => ∃ vv_ LL_, o = .returned vv_ ∧ Q_pch0 Z d kd N2 vs x h0 n0 vv_ U'.heap LL_ ∧ FrameEnd U o U' LL_ 0 0) := by
  refine MetFree.of_bodySF (plainFor_of_name pn_java_lang_StringUTF16) hisR ?_
  intro p e s m args below meth c s₁ Bd hml0 hP hK
  obtain ⟨rfl, hZ, hh⟩ := hP
  have hx := Bd.exec
  have hby := Bd.bytes
  have hml : c.maxLocals = 3 := hml0
  have hown : s.vm.findClass "java/lang/StringUTF16" = some m.cls := findClass_of_methodNamed Bd.named
  have hnm := (name_of_methodNamed Bd.named Bd.method).1
  have X0 : Stand p l e ({ frames := 0, cells := 0, slots := 0, locals := 0 } : Room) s m #[(.ref d), (.int (0 : Int32)), (.int x)] below meth c s₁ [] 0 0 := Stand.of_body Bd
  have e0 : s₁.heap = h0 := by rw [← hh, Bd.state]; rfl
  have N0 := Fr.nil n0
  have ef : entryFrame m #[(.ref d), (.int (0 : Int32)), (.int x)] 3 = mkF m 0 #[.val (.ref d), .val (.int (0 : Int32)), .val (.int x)] [] := by first | (simp [entryFrame, mkF, argsToLocals, Value.category]; done) | rfl
  refine Fin.start (Q := Q_pch0 Z d kd N2 vs x h0 n0) ef ?_
  obtain ⟨T101, X101, e101, st101⟩ := getS X0 hx hZ (host := "") hown (w_ hw 92 rfl) Via.refl e0 (S6.ext OL.2) (g := (mkF m 0 #[.val (.ref d), .val (.int 0), .val (.int x)] [])) rfl (hb hby d_jdk_52_method_4_0)
  refine Fin.by (fun tt_ kk_ => st101 tt_ kk_) ?_
  show Fin _ _ _ _ _ _ _ (T101.setTop (mkF m 3 #[.val (.ref d), .val (.int 0), .val (.int x)] [(.int 1)]))
  refine Fin.by (fun tt_ kk_ => XS.ifYes X101.here hx rfl (pc0 := 3) (pc' := 28) rfl (hb hby d_jdk_52_method_4_3) rfl ((if0 _ _).trans (feq (by decide : ¬ (1 : Int32) = (0 : Int32))).2) (by decide) (by decide) kk_) ?_
  refine Fin.by (fun tt_ kk_ => XS.iloadN X101.here hx rfl (hb hby d_jdk_52_method_4_28) rfl (XS.iconst X101.here hx rfl (hb hby d_jdk_52_method_4_29) (XS.ishl X101.here hx rfl (hb hby d_jdk_52_method_4_30) rfl (XS.istoreN X101.here hx rfl (hb hby d_jdk_52_method_4_31) rfl (l' := #[.val (.ref d), .val (.int 0), .val (.int x)]) rfl (XS.aloadN X101.here hx rfl (hb hby d_jdk_52_method_4_32) rfl rfl (XS.iloadN X101.here hx rfl (hb hby d_jdk_52_method_4_33) rfl (XS.iinc X101.here hx rfl (hb hby d_jdk_52_method_4_34) rfl (l' := #[.val (.ref d), .val (.int 1), .val (.int x)]) rfl (XS.iloadN X101.here hx rfl (hb hby d_jdk_52_method_4_37) rfl kk_)))))))) ?_
  obtain ⟨T102, X102, e102, st102⟩ := getS X101 hx hZ (host := "") hown (w_ hw 93 rfl) Via.refl e101 (S7.ext OL.2) (g := (mkF m 38 #[.val (.ref d), .val (.int 1), .val (.int x)] [(.int x), (.int 0), (.ref d)])) rfl (hb hby d_jdk_52_method_4_38)
  refine Fin.by (fun tt_ kk_ => st102 tt_ kk_) ?_
  refine Fin.by (fun tt_ kk_ => XS.ishr X102.here hx rfl (hb hby d_jdk_52_method_4_41) rfl (XS.i2b X102.here hx rfl (hb hby d_jdk_52_method_4_42) rfl kk_)) ?_
  obtain ⟨cl103, Ar103, q103, S103, N103, H103, G103⟩ := id A0
  have hin103 : ¬ ((0 : Int32) < 0 ∨ cl103.slots.size ≤ (0 : Int32).toNatClampNeg) := inb_of S103 ⟨by decide, hN0⟩
  obtain ⟨T103, h103, X103, e103, W103, st103⟩ := stB X102 hx hZ e102 Ar103 (j := (0 : Int32)) hin103 (g := (mkF m 43 #[.val (.ref d), .val (.int 1), .val (.int x)] [(.int ((x >>> (0 &&& 31)).toInt8.toInt32)), (.int 0), (.ref d)])) rfl rfl (hb hby d_jdk_52_method_4_43)
  have V103 : Arv Z h103 d kd .byte N2 (vs.set 0 (.int (((x >>> ((0 : Int32) &&& 31)).toInt8.toInt32).toInt8.toInt32))) (.int (0 : Int32)) := Arv.set Ar103 q103 S103 N103 H103 G103 (fits_nar_byte _) W103 (0) rfl hl0
  refine Fin.by (fun tt_ kk_ => st103 tt_ kk_) ?_
  have N103_ := Fr.snoc X103 N0 gd
  refine Fin.by (fun tt_ kk_ => XS.aloadN X103.here hx rfl (hb hby d_jdk_52_method_4_44) rfl rfl (XS.iloadN X103.here hx rfl (hb hby d_jdk_52_method_4_45) rfl (XS.iloadN X103.here hx rfl (hb hby d_jdk_52_method_4_46) rfl kk_))) ?_
  have O104 : Old Z n0 h103 := (OL.wr W103 gd)
  obtain ⟨T105, X105, e105, st105⟩ := getS X103 hx hZ (host := "") hown (w_ hw 94 rfl) Via.refl e103 (S8.ext O104.2) (g := (mkF m 47 #[.val (.ref d), .val (.int 1), .val (.int x)] [(.int x), (.int 1), (.ref d)])) rfl (hb hby d_jdk_52_method_4_47)
  refine Fin.by (fun tt_ kk_ => st105 tt_ kk_) ?_
  refine Fin.by (fun tt_ kk_ => XS.ishr X105.here hx rfl (hb hby d_jdk_52_method_4_50) rfl (XS.i2b X105.here hx rfl (hb hby d_jdk_52_method_4_51) rfl kk_)) ?_
  obtain ⟨cl106, Ar106, q106, S106, N106, H106, G106⟩ := id V103
  have hin106 : ¬ ((1 : Int32) < 0 ∨ cl106.slots.size ≤ (1 : Int32).toNatClampNeg) := inb_of S106 ⟨by decide, hN1⟩
  obtain ⟨T106, h106, X106, e106, W106, st106⟩ := stB X105 hx hZ e105 Ar106 (j := (1 : Int32)) hin106 (g := (mkF m 52 #[.val (.ref d), .val (.int 1), .val (.int x)] [(.int ((x >>> (8 &&& 31)).toInt8.toInt32)), (.int 1), (.ref d)])) rfl rfl (hb hby d_jdk_52_method_4_52)
  have V106 : Arv Z h106 d kd .byte N2 ((vs.set 0 (.int (((x >>> ((0 : Int32) &&& 31)).toInt8.toInt32).toInt8.toInt32))).set 1 (.int (((x >>> ((8 : Int32) &&& 31)).toInt8.toInt32).toInt8.toInt32))) (.int (0 : Int32)) := Arv.set Ar106 q106 S106 N106 H106 G106 (fits_nar_byte _) W106 (1) rfl (by rw [List.length_set]; exact hl1)
  refine Fin.by (fun tt_ kk_ => st106 tt_ kk_) ?_
  have N106_ := Fr.snoc X106 N103_ gd
  have kp107 : Keep h0 h103 [d] := (Keep.refl h0 [d]).wr W103 (Or.inl (List.mem_of_getElem? (i := 0) rfl))
  have kp108 : Keep h0 h106 [d] := kp107.wr W106 (Or.inl (List.mem_of_getElem? (i := 0) rfl))
  show Fin _ _ _ _ _ _ _ (T106.setTop (mkF m 53 #[.val (.ref d), .val (.int 1), .val (.int x)] []))
  exact Fin.ret (v := none) X106 (fun _ => rfl) Bd.notSynchronized (by rw [e106]; exact ⟨rfl, N106_, kp108, V106⟩) (by decide) (by decide) (fun fs hr => X106.returnOut hx Bd.returns (hb hby d_jdk_52_method_4_53) hr)
def Q_pch1 (Z : State) (d : Addr) (kd : ClassId) (N2 : Int32) (vs : List Value) (x : Int32) (h0 : Heap) (n0 : Nat) (vv_ : Option Value) (hh_ : Heap) (LL_ : List Loc) : Prop := vv_ = none ∧ Fr n0 LL_ ∧ Keep h0 hh_ [d] ∧ Arv Z hh_ d kd .byte N2 (((vs).set 2 (.int (((x >>> ((0 : Int32) &&& 31)).toInt8.toInt32).toInt8.toInt32))).set 3 (.int (((x >>> ((8 : Int32) &&& 31)).toInt8.toInt32).toInt8.toInt32))) (.int (0 : Int32))
set_option maxRecDepth 65536 in
set_option maxHeartbeats 40000000 in
theorem rm_pch1 (l : Launch) (Z : State) (a0 : Array Value) (hw : ∀ d ∈ tables_1, d.before a0 Z = true) (ws : List Jvm.Cond) (d : Addr) (kd : ClassId) (N2 : Int32) (vs : List Value) (x : Int32) (h0 : Heap) (n0 : Nat) (Z0 : n0 ≤ h0.size) (hl0 : 2 < vs.length) (hl1 : 3 < vs.length) (hN0 : (2 : Int32) < N2) (hN1 : (3 : Int32) < N2) (A0 : Arv Z h0 d kd .byte N2 vs (.int (0 : Int32))) (gd : n0 ≤ d) (S6 : Sta Z Z.heap "java/lang/StringUTF16" "$assertionsDisabled" "Z" (.int (1 : Int32))) (S7 : Sta Z Z.heap "java/lang/StringUTF16" "HI_BYTE_SHIFT" "I" (.int (0 : Int32))) (S8 : Sta Z Z.heap "java/lang/StringUTF16" "LO_BYTE_SHIFT" "I" (.int (8 : Int32))) (OL : Old Z n0 h0) :
    MetFree l (⟨"java/lang/StringUTF16", "putChar", "([BII)V"⟩ : MethodName) (head1 (Jvm.Cond.code (⟨"java/lang/StringUTF16", "putChar", "([BII)V"⟩ : MethodName) jdk_52_method_4_code 3 none :: ws) ({ frames := 0, cells := 0, slots := 0, locals := 0 } : Room)) (fun aa_ U => aa_ = #[(.ref d), (.int (1 : Int32)), (.int x)] ∧ Z.Warmed39 U.vm ∧ U.heap = h0) (fun _ _ _ _ _ => True) (fun _ U o U' => ∃ vv_ LL_, o = .returned vv_ ∧ Q_pch1 Z d kd N2 vs x h0 n0 vv_ U'.heap LL_ ∧ FrameEnd U o U' LL_ 0 0) := by
  refine MetFree.of_bodySF (plainFor_of_name pn_java_lang_StringUTF16) hisR ?_
  intro p e s m args below meth c s₁ Bd hml0 hP hK
  obtain ⟨rfl, hZ, hh⟩ := hP
  have hx := Bd.exec
  have hby := Bd.bytes
  have hml : c.maxLocals = 3 := hml0
  have hown : s.vm.findClass "java/lang/StringUTF16" = some m.cls := findClass_of_methodNamed Bd.named
  have hnm := (name_of_methodNamed Bd.named Bd.method).1
  have X0 : Stand p l e ({ frames := 0, cells := 0, slots := 0, locals := 0 } : Room) s m #[(.ref d), (.int (1 : Int32)), (.int x)] below meth c s₁ [] 0 0 := Stand.of_body Bd
  have e0 : s₁.heap = h0 := by rw [← hh, Bd.state]; rfl
  have N0 := Fr.nil n0
  have ef : entryFrame m #[(.ref d), (.int (1 : Int32)), (.int x)] 3 = mkF m 0 #[.val (.ref d), .val (.int (1 : Int32)), .val (.int x)] [] := by first | (simp [entryFrame, mkF, argsToLocals, Value.category]; done) | rfl
  refine Fin.start (Q := Q_pch1 Z d kd N2 vs x h0 n0) ef ?_
  obtain ⟨T101, X101, e101, st101⟩ := getS X0 hx hZ (host := "") hown (w_ hw 92 rfl) Via.refl e0 (S6.ext OL.2) (g := (mkF m 0 #[.val (.ref d), .val (.int 1), .val (.int x)] [])) rfl (hb hby d_jdk_52_method_4_0)
  refine Fin.by (fun tt_ kk_ => st101 tt_ kk_) ?_
  show Fin _ _ _ _ _ _ _ (T101.setTop (mkF m 3 #[.val (.ref d), .val (.int 1), .val (.int x)] [(.int 1)]))
  refine Fin.by (fun tt_ kk_ => XS.ifYes X101.here hx rfl (pc0 := 3) (pc' := 28) rfl (hb hby d_jdk_52_method_4_3) rfl ((if0 _ _).trans (feq (by decide : ¬ (1 : Int32) = (0 : Int32))).2) (by decide) (by decide) kk_) ?_
  refine Fin.by (fun tt_ kk_ => XS.iloadN X101.here hx rfl (hb hby d_jdk_52_method_4_28) rfl (XS.iconst X101.here hx rfl (hb hby d_jdk_52_method_4_29) (XS.ishl X101.here hx rfl (hb hby d_jdk_52_method_4_30) rfl (XS.istoreN X101.here hx rfl (hb hby d_jdk_52_method_4_31) rfl (l' := #[.val (.ref d), .val (.int 2), .val (.int x)]) rfl (XS.aloadN X101.here hx rfl (hb hby d_jdk_52_method_4_32) rfl rfl (XS.iloadN X101.here hx rfl (hb hby d_jdk_52_method_4_33) rfl (XS.iinc X101.here hx rfl (hb hby d_jdk_52_method_4_34) rfl (l' := #[.val (.ref d), .val (.int 3), .val (.int x)]) rfl (XS.iloadN X101.here hx rfl (hb hby d_jdk_52_method_4_37) rfl kk_)))))))) ?_
  obtain ⟨T102, X102, e102, st102⟩ := getS X101 hx hZ (host := "") hown (w_ hw 93 rfl) Via.refl e101 (S7.ext OL.2) (g := (mkF m 38 #[.val (.ref d), .val (.int 3), .val (.int x)] [(.int x), (.int 2), (.ref d)])) rfl (hb hby d_jdk_52_method_4_38)
  refine Fin.by (fun tt_ kk_ => st102 tt_ kk_) ?_
  refine Fin.by (fun tt_ kk_ => XS.ishr X102.here hx rfl (hb hby d_jdk_52_method_4_41) rfl (XS.i2b X102.here hx rfl (hb hby d_jdk_52_method_4_42) rfl kk_)) ?_
  obtain ⟨cl103, Ar103, q103, S103, N103, H103, G103⟩ := id A0
  have hin103 : ¬ ((2 : Int32) < 0 ∨ cl103.slots.size ≤ (2 : Int32).toNatClampNeg) := inb_of S103 ⟨by decide, hN0⟩
  obtain ⟨T103, h103, X103, e103, W103, st103⟩ := stB X102 hx hZ e102 Ar103 (j := (2 : Int32)) hin103 (g := (mkF m 43 #[.val (.ref d), .val (.int 3), .val (.int x)] [(.int ((x >>> (0 &&& 31)).toInt8.toInt32)), (.int 2), (.ref d)])) rfl rfl (hb hby d_jdk_52_method_4_43)
  have V103 : Arv Z h103 d kd .byte N2 (vs.set 2 (.int (((x >>> ((0 : Int32) &&& 31)).toInt8.toInt32).toInt8.toInt32))) (.int (0 : Int32)) := Arv.set Ar103 q103 S103 N103 H103 G103 (fits_nar_byte _) W103 (2) rfl hl0
  refine Fin.by (fun tt_ kk_ => st103 tt_ kk_) ?_
  have N103_ := Fr.snoc X103 N0 gd
  refine Fin.by (fun tt_ kk_ => XS.aloadN X103.here hx rfl (hb hby d_jdk_52_method_4_44) rfl rfl (XS.iloadN X103.here hx rfl (hb hby d_jdk_52_method_4_45) rfl (XS.iloadN X103.here hx rfl (hb hby d_jdk_52_method_4_46) rfl kk_))) ?_
  have O104 : Old Z n0 h103 := (OL.wr W103 gd)
  obtain ⟨T105, X105, e105, st105⟩ := getS X103 hx hZ (host := "") hown (w_ hw 94 rfl) Via.refl e103 (S8.ext O104.2) (g := (mkF m 47 #[.val (.ref d), .val (.int 3), .val (.int x)] [(.int x), (.int 3), (.ref d)])) rfl (hb hby d_jdk_52_method_4_47)
  refine Fin.by (fun tt_ kk_ => st105 tt_ kk_) ?_
  refine Fin.by (fun tt_ kk_ => XS.ishr X105.here hx rfl (hb hby d_jdk_52_method_4_50) rfl (XS.i2b X105.here hx rfl (hb hby d_jdk_52_method_4_51) rfl kk_)) ?_
  obtain ⟨cl106, Ar106, q106, S106, N106, H106, G106⟩ := id V103
  have hin106 : ¬ ((3 : Int32) < 0 ∨ cl106.slots.size ≤ (3 : Int32).toNatClampNeg) := inb_of S106 ⟨by decide, hN1⟩
  obtain ⟨T106, h106, X106, e106, W106, st106⟩ := stB X105 hx hZ e105 Ar106 (j := (3 : Int32)) hin106 (g := (mkF m 52 #[.val (.ref d), .val (.int 3), .val (.int x)] [(.int ((x >>> (8 &&& 31)).toInt8.toInt32)), (.int 3), (.ref d)])) rfl rfl (hb hby d_jdk_52_method_4_52)
  have V106 : Arv Z h106 d kd .byte N2 ((vs.set 2 (.int (((x >>> ((0 : Int32) &&& 31)).toInt8.toInt32).toInt8.toInt32))).set 3 (.int (((x >>> ((8 : Int32) &&& 31)).toInt8.toInt32).toInt8.toInt32))) (.int (0 : Int32)) := Arv.set Ar106 q106 S106 N106 H106 G106 (fits_nar_byte _) W106 (3) rfl (by rw [List.length_set]; exact hl1)
  refine Fin.by (fun tt_ kk_ => st106 tt_ kk_) ?_
  have N106_ := Fr.snoc X106 N103_ gd
  have kp107 : Keep h0 h103 [d] := (Keep.refl h0 [d]).wr W103 (Or.inl (List.mem_of_getElem? (i := 0) rfl))
  have kp108 : Keep h0 h106 [d] := kp107.wr W106 (Or.inl (List.mem_of_getElem? (i := 0) rfl))
  show Fin _ _ _ _ _ _ _ (T106.setTop (mkF m 53 #[.val (.ref d), .val (.int 3), .val (.int x)] []))
  exact Fin.ret (v := none) X106 (fun _ => rfl) Bd.notSynchronized (by rw [e106]; exact ⟨rfl, N106_, kp108, V106⟩) (by decide) (by decide) (fun fs hr => X106.returnOut hx Bd.returns (hb hby d_jdk_52_method_4_53) hr)
def Q_pch2 (Z : State) (d : Addr) (kd : ClassId) (N2 : Int32) (vs : List Value) (x : Int32) (h0 : Heap) (n0 : Nat) (vv_ : Option Value) (hh_ : Heap) (LL_ : List Loc) : Prop := vv_ = none ∧ Fr n0 LL_ ∧ Keep h0 hh_ [d] ∧ Arv Z hh_ d kd .byte N2 (((vs).set 4 (.int (((x >>> ((0 : Int32) &&& 31)).toInt8.toInt32).toInt8.toInt32))).set 5 (.int (((x >>> ((8 : Int32) &&& 31)).toInt8.toInt32).toInt8.toInt32))) (.int (0 : Int32))
set_option maxRecDepth 65536 in
set_option maxHeartbeats 40000000 in
theorem rm_pch2 (l : Launch) (Z : State) (a0 : Array Value) (hw : ∀ d ∈ tables_1, d.before a0 Z = true) (ws : List Jvm.Cond) (d : Addr) (kd : ClassId) (N2 : Int32) (vs : List Value) (x : Int32) (h0 : Heap) (n0 : Nat) (Z0 : n0 ≤ h0.size) (hl0 : 4 < vs.length) (hl1 : 5 < vs.length) (hN0 : (4 : Int32) < N2) (hN1 : (5 : Int32) < N2) (A0 : Arv Z h0 d kd .byte N2 vs (.int (0 : Int32))) (gd : n0 ≤ d) (S6 : Sta Z Z.heap "java/lang/StringUTF16" "$assertionsDisabled" "Z" (.int (1 : Int32))) (S7 : Sta Z Z.heap "java/lang/StringUTF16" "HI_BYTE_SHIFT" "I" (.int (0 : Int32))) (S8 : Sta Z Z.heap "java/lang/StringUTF16" "LO_BYTE_SHIFT" "I" (.int (8 : Int32))) (OL : Old Z n0 h0) :
    MetFree l (⟨"java/lang/StringUTF16", "putChar", "([BII)V"⟩ : MethodName) (head1 (Jvm.Cond.code (⟨"java/lang/StringUTF16", "putChar", "([BII)V"⟩ : MethodName) jdk_52_method_4_code 3 none :: ws) ({ frames := 0, cells := 0, slots := 0, locals := 0 } : Room)) (fun aa_ U => aa_ = #[(.ref d), (.int (2 : Int32)), (.int x)] ∧ Z.Warmed39 U.vm ∧ U.heap = h0) (fun _ _ _ _ _ => True) (fun _ U o U' => ∃ vv_ LL_, o = .returned vv_ ∧ Q_pch2 Z d kd N2 vs x h0 n0 vv_ U'.heap LL_ ∧ FrameEnd U o U' LL_ 0 0) := by
  refine MetFree.of_bodySF (plainFor_of_name pn_java_lang_StringUTF16) hisR ?_
  intro p e s m args below meth c s₁ Bd hml0 hP hK
  obtain ⟨rfl, hZ, hh⟩ := hP
  have hx := Bd.exec
  have hby := Bd.bytes
  have hml : c.maxLocals = 3 := hml0
  have hown : s.vm.findClass "java/lang/StringUTF16" = some m.cls := findClass_of_methodNamed Bd.named
  have hnm := (name_of_methodNamed Bd.named Bd.method).1
  have X0 : Stand p l e ({ frames := 0, cells := 0, slots := 0, locals := 0 } : Room) s m #[(.ref d), (.int (2 : Int32)), (.int x)] below meth c s₁ [] 0 0 := Stand.of_body Bd
  have e0 : s₁.heap = h0 := by rw [← hh, Bd.state]; rfl
  have N0 := Fr.nil n0
  have ef : entryFrame m #[(.ref d), (.int (2 : Int32)), (.int x)] 3 = mkF m 0 #[.val (.ref d), .val (.int (2 : Int32)), .val (.int x)] [] := by first | (simp [entryFrame, mkF, argsToLocals, Value.category]; done) | rfl
  refine Fin.start (Q := Q_pch2 Z d kd N2 vs x h0 n0) ef ?_
  obtain ⟨T101, X101, e101, st101⟩ := getS X0 hx hZ (host := "") hown (w_ hw 92 rfl) Via.refl e0 (S6.ext OL.2) (g := (mkF m 0 #[.val (.ref d), .val (.int 2), .val (.int x)] [])) rfl (hb hby d_jdk_52_method_4_0)
  refine Fin.by (fun tt_ kk_ => st101 tt_ kk_) ?_
  show Fin _ _ _ _ _ _ _ (T101.setTop (mkF m 3 #[.val (.ref d), .val (.int 2), .val (.int x)] [(.int 1)]))
  refine Fin.by (fun tt_ kk_ => XS.ifYes X101.here hx rfl (pc0 := 3) (pc' := 28) rfl (hb hby d_jdk_52_method_4_3) rfl ((if0 _ _).trans (feq (by decide : ¬ (1 : Int32) = (0 : Int32))).2) (by decide) (by decide) kk_) ?_
  refine Fin.by (fun tt_ kk_ => XS.iloadN X101.here hx rfl (hb hby d_jdk_52_method_4_28) rfl (XS.iconst X101.here hx rfl (hb hby d_jdk_52_method_4_29) (XS.ishl X101.here hx rfl (hb hby d_jdk_52_method_4_30) rfl (XS.istoreN X101.here hx rfl (hb hby d_jdk_52_method_4_31) rfl (l' := #[.val (.ref d), .val (.int 4), .val (.int x)]) rfl (XS.aloadN X101.here hx rfl (hb hby d_jdk_52_method_4_32) rfl rfl (XS.iloadN X101.here hx rfl (hb hby d_jdk_52_method_4_33) rfl (XS.iinc X101.here hx rfl (hb hby d_jdk_52_method_4_34) rfl (l' := #[.val (.ref d), .val (.int 5), .val (.int x)]) rfl (XS.iloadN X101.here hx rfl (hb hby d_jdk_52_method_4_37) rfl kk_)))))))) ?_
  obtain ⟨T102, X102, e102, st102⟩ := getS X101 hx hZ (host := "") hown (w_ hw 93 rfl) Via.refl e101 (S7.ext OL.2) (g := (mkF m 38 #[.val (.ref d), .val (.int 5), .val (.int x)] [(.int x), (.int 4), (.ref d)])) rfl (hb hby d_jdk_52_method_4_38)
  refine Fin.by (fun tt_ kk_ => st102 tt_ kk_) ?_
  refine Fin.by (fun tt_ kk_ => XS.ishr X102.here hx rfl (hb hby d_jdk_52_method_4_41) rfl (XS.i2b X102.here hx rfl (hb hby d_jdk_52_method_4_42) rfl kk_)) ?_
  obtain ⟨cl103, Ar103, q103, S103, N103, H103, G103⟩ := id A0
  have hin103 : ¬ ((4 : Int32) < 0 ∨ cl103.slots.size ≤ (4 : Int32).toNatClampNeg) := inb_of S103 ⟨by decide, hN0⟩
  obtain ⟨T103, h103, X103, e103, W103, st103⟩ := stB X102 hx hZ e102 Ar103 (j := (4 : Int32)) hin103 (g := (mkF m 43 #[.val (.ref d), .val (.int 5), .val (.int x)] [(.int ((x >>> (0 &&& 31)).toInt8.toInt32)), (.int 4), (.ref d)])) rfl rfl (hb hby d_jdk_52_method_4_43)
  have V103 : Arv Z h103 d kd .byte N2 (vs.set 4 (.int (((x >>> ((0 : Int32) &&& 31)).toInt8.toInt32).toInt8.toInt32))) (.int (0 : Int32)) := Arv.set Ar103 q103 S103 N103 H103 G103 (fits_nar_byte _) W103 (4) rfl hl0
  refine Fin.by (fun tt_ kk_ => st103 tt_ kk_) ?_
  have N103_ := Fr.snoc X103 N0 gd
  refine Fin.by (fun tt_ kk_ => XS.aloadN X103.here hx rfl (hb hby d_jdk_52_method_4_44) rfl rfl (XS.iloadN X103.here hx rfl (hb hby d_jdk_52_method_4_45) rfl (XS.iloadN X103.here hx rfl (hb hby d_jdk_52_method_4_46) rfl kk_))) ?_
  have O104 : Old Z n0 h103 := (OL.wr W103 gd)
  obtain ⟨T105, X105, e105, st105⟩ := getS X103 hx hZ (host := "") hown (w_ hw 94 rfl) Via.refl e103 (S8.ext O104.2) (g := (mkF m 47 #[.val (.ref d), .val (.int 5), .val (.int x)] [(.int x), (.int 5), (.ref d)])) rfl (hb hby d_jdk_52_method_4_47)
  refine Fin.by (fun tt_ kk_ => st105 tt_ kk_) ?_
  refine Fin.by (fun tt_ kk_ => XS.ishr X105.here hx rfl (hb hby d_jdk_52_method_4_50) rfl (XS.i2b X105.here hx rfl (hb hby d_jdk_52_method_4_51) rfl kk_)) ?_
  obtain ⟨cl106, Ar106, q106, S106, N106, H106, G106⟩ := id V103
  have hin106 : ¬ ((5 : Int32) < 0 ∨ cl106.slots.size ≤ (5 : Int32).toNatClampNeg) := inb_of S106 ⟨by decide, hN1⟩
  obtain ⟨T106, h106, X106, e106, W106, st106⟩ := stB X105 hx hZ e105 Ar106 (j := (5 : Int32)) hin106 (g := (mkF m 52 #[.val (.ref d), .val (.int 5), .val (.int x)] [(.int ((x >>> (8 &&& 31)).toInt8.toInt32)), (.int 5), (.ref d)])) rfl rfl (hb hby d_jdk_52_method_4_52)
  have V106 : Arv Z h106 d kd .byte N2 ((vs.set 4 (.int (((x >>> ((0 : Int32) &&& 31)).toInt8.toInt32).toInt8.toInt32))).set 5 (.int (((x >>> ((8 : Int32) &&& 31)).toInt8.toInt32).toInt8.toInt32))) (.int (0 : Int32)) := Arv.set Ar106 q106 S106 N106 H106 G106 (fits_nar_byte _) W106 (5) rfl (by rw [List.length_set]; exact hl1)
  refine Fin.by (fun tt_ kk_ => st106 tt_ kk_) ?_
  have N106_ := Fr.snoc X106 N103_ gd
  have kp107 : Keep h0 h103 [d] := (Keep.refl h0 [d]).wr W103 (Or.inl (List.mem_of_getElem? (i := 0) rfl))
  have kp108 : Keep h0 h106 [d] := kp107.wr W106 (Or.inl (List.mem_of_getElem? (i := 0) rfl))
  show Fin _ _ _ _ _ _ _ (T106.setTop (mkF m 53 #[.val (.ref d), .val (.int 5), .val (.int x)] []))
  exact Fin.ret (v := none) X106 (fun _ => rfl) Bd.notSynchronized (by rw [e106]; exact ⟨rfl, N106_, kp108, V106⟩) (by decide) (by decide) (fun fs hr => X106.returnOut hx Bd.returns (hb hby d_jdk_52_method_4_53) hr)
theorem d_jdk_52_method_21_0 : decode jdk_52_method_21_code 0 = .ok (.iconst 0, 1) := by decide +kernel
theorem d_jdk_52_method_21_1 : decode jdk_52_method_21_code 1 = .ok (.istore 5, 2) := by decide +kernel
theorem d_jdk_52_method_21_3 : decode jdk_52_method_21_code 3 = .ok (.iload 5, 2) := by decide +kernel
theorem d_jdk_52_method_21_5 : decode jdk_52_method_21_code 5 = .ok (.iload 4, 2) := by decide +kernel
theorem d_jdk_52_method_21_7 : decode jdk_52_method_21_code 7 = .ok (.if_icmp .ge 37, 3) := by decide +kernel
theorem d_jdk_52_method_21_10 : decode jdk_52_method_21_code 10 = .ok (.aload_n 0, 1) := by decide +kernel
theorem d_jdk_52_method_21_11 : decode jdk_52_method_21_code 11 = .ok (.iload_n 1, 1) := by decide +kernel
theorem d_jdk_52_method_21_12 : decode jdk_52_method_21_code 12 = .ok (.caload, 1) := by decide +kernel
theorem d_jdk_52_method_21_13 : decode jdk_52_method_21_code 13 = .ok (.istore 6, 2) := by decide +kernel
theorem d_jdk_52_method_21_15 : decode jdk_52_method_21_code 15 = .ok (.iload 6, 2) := by decide +kernel
theorem d_jdk_52_method_21_17 : decode jdk_52_method_21_code 17 = .ok (.sipush 255, 3) := by decide +kernel
theorem d_jdk_52_method_21_20 : decode jdk_52_method_21_code 20 = .ok (.if_icmp .le 6, 3) := by decide +kernel
theorem d_jdk_52_method_21_23 : decode jdk_52_method_21_code 23 = .ok (.iload 5, 2) := by decide +kernel
theorem d_jdk_52_method_21_25 : decode jdk_52_method_21_code 25 = .ok (.ireturn, 1) := by decide +kernel
theorem d_jdk_52_method_21_26 : decode jdk_52_method_21_code 26 = .ok (.aload_n 2, 1) := by decide +kernel
theorem d_jdk_52_method_21_27 : decode jdk_52_method_21_code 27 = .ok (.iload_n 3, 1) := by decide +kernel
theorem d_jdk_52_method_21_28 : decode jdk_52_method_21_code 28 = .ok (.iload 6, 2) := by decide +kernel
theorem d_jdk_52_method_21_30 : decode jdk_52_method_21_code 30 = .ok (.i2b, 1) := by decide +kernel
theorem d_jdk_52_method_21_31 : decode jdk_52_method_21_code 31 = .ok (.bastore, 1) := by decide +kernel
theorem d_jdk_52_method_21_32 : decode jdk_52_method_21_code 32 = .ok (.iinc 1 1, 3) := by decide +kernel
theorem d_jdk_52_method_21_35 : decode jdk_52_method_21_code 35 = .ok (.iinc 3 1, 3) := by decide +kernel
theorem d_jdk_52_method_21_38 : decode jdk_52_method_21_code 38 = .ok (.iinc 5 1, 3) := by decide +kernel
theorem d_jdk_52_method_21_41 : decode jdk_52_method_21_code 41 = .ok (.goto (-38), 3) := by decide +kernel
theorem d_jdk_52_method_21_44 : decode jdk_52_method_21_code 44 = .ok (.iload 4, 2) := by decide +kernel
theorem d_jdk_52_method_21_46 : decode jdk_52_method_21_code 46 = .ok (.ireturn, 1) := by decide +kernel
def Q_c5_1 (Z : State) (b : Addr) (kb : ClassId) (d : Addr) (kd : ClassId) (c0 : Int32) (h0 : Heap) (n0 : Nat) (vv_ : Option Value) (hh_ : Heap) (LL_ : List Loc) : Prop := ∃ (r : Int32), ∃ (vs : List Value), vv_ = some (.int r) ∧ Fr n0 LL_ ∧ Keep h0 hh_ [d] ∧ Arv Z hh_ d kd .byte (1 : Int32) vs (.int (0 : Int32)) ∧ ((r = (1 : Int32) ∧ vs = [(.int ((c0.toInt8.toInt32).toInt8.toInt32))] ∧ ¬ (255 : Int32) < c0) ∨ (r = (0 : Int32) ∧ (255 : Int32) < c0))
set_option maxRecDepth 65536 in
set_option maxHeartbeats 40000000 in
theorem rm_c5_1 (l : Launch) (Z : State) (a0 : Array Value) (hw : ∀ d ∈ tables_1, d.before a0 Z = true) (ws : List Jvm.Cond) (b : Addr) (kb : ClassId) (d : Addr) (kd : ClassId) (c0 : Int32) (h0 : Heap) (n0 : Nat) (Z0 : n0 ≤ h0.size) (Ab : Arv Z h0 b kb .char (1 : Int32) [(.int c0)] (.int (0 : Int32))) (Ad : Arv Z h0 d kd .byte (1 : Int32) [(.int (0 : Int32))] (.int (0 : Int32))) (gd : n0 ≤ d) (nbd : b ≠ d) :
    MetFree l (⟨"java/lang/StringUTF16", "compress", "([CI[BII)I"⟩ : MethodName) (head1 (Jvm.Cond.code (⟨"java/lang/StringUTF16", "compress", "([CI[BII)I"⟩ : MethodName) jdk_52_method_21_code 7 (some .int) :: ws) ({ frames := 0, cells := 0, slots := 0, locals := 0 } : Room)) (fun aa_ U => aa_ = #[(.ref b), (.int (0 : Int32)), (.ref d), (.int (0 : Int32)), (.int (1 : Int32))] ∧ Z.Warmed39 U.vm ∧ U.heap = h0) (fun _ _ _ _ _ => True) (fun _ U o U' => ∃ vv_ LL_, o = .returned vv_ ∧ Q_c5_1 Z b kb d kd c0 h0 n0 vv_ U'.heap LL_ ∧ FrameEnd U o U' LL_ 0 0) := by
  refine MetFree.of_bodySF (plainFor_of_name pn_java_lang_StringUTF16) hisR ?_
  intro p e s m args below meth c s₁ Bd hml0 hP hK
  obtain ⟨rfl, hZ, hh⟩ := hP
  have hx := Bd.exec
  have hby := Bd.bytes
  have hml : c.maxLocals = 7 := hml0
  have hown : s.vm.findClass "java/lang/StringUTF16" = some m.cls := findClass_of_methodNamed Bd.named
  have hnm := (name_of_methodNamed Bd.named Bd.method).1
  have X0 : Stand p l e ({ frames := 0, cells := 0, slots := 0, locals := 0 } : Room) s m #[(.ref b), (.int (0 : Int32)), (.ref d), (.int (0 : Int32)), (.int (1 : Int32))] below meth c s₁ [] 0 0 := Stand.of_body Bd
  have e0 : s₁.heap = h0 := by rw [← hh, Bd.state]; rfl
  have N0 := Fr.nil n0
  have ef : entryFrame m #[(.ref b), (.int (0 : Int32)), (.ref d), (.int (0 : Int32)), (.int (1 : Int32))] 7 = mkF m 0 #[.val (.ref b), .val (.int (0 : Int32)), .val (.ref d), .val (.int (0 : Int32)), .val (.int (1 : Int32)), .unset, .unset] [] := by first | (simp [entryFrame, mkF, argsToLocals, Value.category]; done) | rfl
  refine Fin.start (Q := Q_c5_1 Z b kb d kd c0 h0 n0) ef ?_
  refine Fin.by (fun tt_ kk_ => XS.iconst X0.here hx rfl (hb hby d_jdk_52_method_21_0) (XS.istore X0.here hx rfl (hb hby d_jdk_52_method_21_1) rfl (l' := #[.val (.ref b), .val (.int 0), .val (.ref d), .val (.int 0), .val (.int 1), .val (.int 0), .unset]) rfl (XS.iload X0.here hx rfl (hb hby d_jdk_52_method_21_3) rfl (XS.iload X0.here hx rfl (hb hby d_jdk_52_method_21_5) rfl kk_)))) ?_
  show Fin _ _ _ _ _ _ _ (s₁.setTop (mkF m 7 #[.val (.ref b), .val (.int 0), .val (.ref d), .val (.int 0), .val (.int 1), .val (.int 0), .unset] [(.int 1), (.int 0)]))
  refine Fin.by (fun tt_ kk_ => XS.icmpNo X0.here hx rfl (hb hby d_jdk_52_method_21_7) rfl (tlt (by decide : (0 : Int32) < (1 : Int32))).2.1 kk_) ?_
  refine Fin.by (fun tt_ kk_ => XS.aloadN X0.here hx rfl (hb hby d_jdk_52_method_21_10) rfl rfl (XS.iloadN X0.here hx rfl (hb hby d_jdk_52_method_21_11) rfl kk_)) ?_
  obtain ⟨cl101, Ar101, q101, S101, N101, H101, G101⟩ := id Ab
  have hin101 : ¬ ((0 : Int32) < 0 ∨ cl101.slots.size ≤ (0 : Int32).toNatClampNeg) := inb_of S101 ⟨by decide, by decide⟩
  refine Fin.by (fun tt_ kk_ => X0.caload hx (j := (0 : Int32)) (v := (.int c0)) (by rw [e0]; exact Ar101.1) (State.isArrayOf_alike hZ.alike Ar101.2.1) Ar101.2.2 hin101 (Has.at H101 hin101 rfl) (g := (mkF m 12 #[.val (.ref b), .val (.int 0), .val (.ref d), .val (.int 0), .val (.int 1), .val (.int 0), .unset] [(.int 0), (.ref b)])) rfl rfl (hb hby d_jdk_52_method_21_12) _ kk_) ?_
  refine Fin.by (fun tt_ kk_ => XS.istore X0.here hx rfl (hb hby d_jdk_52_method_21_13) rfl (l' := #[.val (.ref b), .val (.int 0), .val (.ref d), .val (.int 0), .val (.int 1), .val (.int 0), .val (.int c0)]) rfl (XS.iload X0.here hx rfl (hb hby d_jdk_52_method_21_15) rfl (XS.sipush X0.here hx rfl (hb hby d_jdk_52_method_21_17) kk_))) ?_
  show Fin _ _ _ _ _ _ _ (s₁.setTop (mkF m 20 #[.val (.ref b), .val (.int 0), .val (.ref d), .val (.int 0), .val (.int 1), .val (.int 0), .val (.int c0)] [(.int 255), (.int c0)]))
  by_cases hx_0 : (255 : Int32) < c0
  · refine Fin.by (fun tt_ kk_ => XS.icmpNo X0.here hx rfl (hb hby d_jdk_52_method_21_20) rfl (tlt hx_0).2.2.2 kk_) ?_
    refine Fin.by (fun tt_ kk_ => XS.iload X0.here hx rfl (hb hby d_jdk_52_method_21_23) rfl kk_) ?_
    show Fin _ _ _ _ _ _ _ (s₁.setTop (mkF m 25 #[.val (.ref b), .val (.int 0), .val (.ref d), .val (.int 0), .val (.int 1), .val (.int 0), .val (.int c0)] [(.int 0)]))
    exact Fin.ret (v := some (.int (0 : Int32))) X0 (fun h => by rw [Bd.returns] at h; cases h) Bd.notSynchronized (by rw [e0]; exact ⟨(0 : Int32), [(.int (0 : Int32))], rfl, N0, (Keep.refl h0 [d]), Ad, (Or.inr ⟨rfl, hx_0⟩)⟩) (by decide) (by decide) (fun fs hr => retI X0 hx Bd.returns (hb hby d_jdk_52_method_21_25) hr)
  · refine Fin.by (fun tt_ kk_ => XS.icmpYes X0.here hx rfl (pc0 := 20) (pc' := 26) rfl (hb hby d_jdk_52_method_21_20) rfl (flt hx_0).2.2.2 (by decide) (by decide) kk_) ?_
    refine Fin.by (fun tt_ kk_ => XS.aloadN X0.here hx rfl (hb hby d_jdk_52_method_21_26) rfl rfl (XS.iloadN X0.here hx rfl (hb hby d_jdk_52_method_21_27) rfl (XS.iload X0.here hx rfl (hb hby d_jdk_52_method_21_28) rfl (XS.i2b X0.here hx rfl (hb hby d_jdk_52_method_21_30) rfl kk_)))) ?_
    obtain ⟨cl102, Ar102, q102, S102, N102, H102, G102⟩ := id Ad
    obtain ⟨T102, h102, X102, e102, W102, st102⟩ := stB X0 hx hZ e0 Ar102 (j := (0 : Int32)) (inb_of S102 ⟨by decide, by decide⟩) (g := (mkF m 31 #[.val (.ref b), .val (.int 0), .val (.ref d), .val (.int 0), .val (.int 1), .val (.int 0), .val (.int c0)] [(.int (c0.toInt8.toInt32)), (.int 0), (.ref d)])) rfl rfl (hb hby d_jdk_52_method_21_31)
    have V102 : Arv Z h102 d kd .byte (1 : Int32) [(.int ((c0.toInt8.toInt32).toInt8.toInt32))] (.int (0 : Int32)) := Arv.set Ar102 q102 S102 N102 H102 G102 (fits_nar_byte _) W102 0 rfl (Nat.le_of_ble_eq_true rfl)
    refine Fin.by (fun tt_ kk_ => st102 tt_ kk_) ?_
    have N102_ := Fr.snoc X102 N0 gd
    refine Fin.by (fun tt_ kk_ => XS.iinc X102.here hx rfl (hb hby d_jdk_52_method_21_32) rfl (l' := #[.val (.ref b), .val (.int 1), .val (.ref d), .val (.int 0), .val (.int 1), .val (.int 0), .val (.int c0)]) rfl (XS.iinc X102.here hx rfl (hb hby d_jdk_52_method_21_35) rfl (l' := #[.val (.ref b), .val (.int 1), .val (.ref d), .val (.int 1), .val (.int 1), .val (.int 0), .val (.int c0)]) rfl (XS.iinc X102.here hx rfl (hb hby d_jdk_52_method_21_38) rfl (l' := #[.val (.ref b), .val (.int 1), .val (.ref d), .val (.int 1), .val (.int 1), .val (.int 1), .val (.int c0)]) rfl (XS.goto X102.here hx rfl (pc0 := 41) (pc' := 3) rfl (hb hby d_jdk_52_method_21_41) (by decide) (by decide) (XS.iload X102.here hx rfl (hb hby d_jdk_52_method_21_3) rfl (XS.iload X102.here hx rfl (hb hby d_jdk_52_method_21_5) rfl kk_)))))) ?_
    show Fin _ _ _ _ _ _ _ (T102.setTop (mkF m 7 #[.val (.ref b), .val (.int 1), .val (.ref d), .val (.int 1), .val (.int 1), .val (.int 1), .val (.int c0)] [(.int 1), (.int 1)]))
    refine Fin.by (fun tt_ kk_ => XS.icmpYes X102.here hx rfl (pc0 := 7) (pc' := 44) rfl (hb hby d_jdk_52_method_21_7) rfl (flt (by decide : ¬ (1 : Int32) < (1 : Int32))).2.1 (by decide) (by decide) kk_) ?_
    refine Fin.by (fun tt_ kk_ => XS.iload X102.here hx rfl (hb hby d_jdk_52_method_21_44) rfl kk_) ?_
    have kp103 : Keep h0 h102 [d] := (Keep.refl h0 [d]).wr W102 (Or.inl (List.mem_of_getElem? (i := 0) rfl))
    show Fin _ _ _ _ _ _ _ (T102.setTop (mkF m 46 #[.val (.ref b), .val (.int 1), .val (.ref d), .val (.int 1), .val (.int 1), .val (.int 1), .val (.int c0)] [(.int 1)]))
    exact Fin.ret (v := some (.int (1 : Int32))) X102 (fun h => by rw [Bd.returns] at h; cases h) Bd.notSynchronized (by rw [e102]; exact ⟨(1 : Int32), [(.int ((c0.toInt8.toInt32).toInt8.toInt32))], rfl, N102_, kp103, V102, (Or.inl ⟨rfl, rfl, hx_0⟩)⟩) (by decide) (by decide) (fun fs hr => retI X102 hx Bd.returns (hb hby d_jdk_52_method_21_46) hr)
theorem d_jdk_52_method_3_0 : decode jdk_52_method_3_code 0 = .ok (.iload_n 0, 1) := by decide +kernel
theorem d_jdk_52_method_3_1 : decode jdk_52_method_3_code 1 = .ok (.ifCond .ge 11, 3) := by decide +kernel
theorem d_jdk_52_method_3_12 : decode jdk_52_method_3_code 12 = .ok (.iload_n 0, 1) := by decide +kernel
theorem d_jdk_52_method_3_13 : decode jdk_52_method_3_code 13 = .ok (.ldc 20, 2) := by decide +kernel
theorem d_jdk_52_method_3_15 : decode jdk_52_method_3_code 15 = .ok (.if_icmp .lt 40, 3) := by decide +kernel
theorem d_jdk_52_method_3_55 : decode jdk_52_method_3_code 55 = .ok (.iload_n 0, 1) := by decide +kernel
theorem d_jdk_52_method_3_56 : decode jdk_52_method_3_code 56 = .ok (.iconst 1, 1) := by decide +kernel
theorem d_jdk_52_method_3_57 : decode jdk_52_method_3_code 57 = .ok (.ishl, 1) := by decide +kernel
theorem d_jdk_52_method_3_58 : decode jdk_52_method_3_code 58 = .ok (.ireturn, 1) := by decide +kernel
def Q_nbl_1 (Z : State)  (h0 : Heap) (n0 : Nat) (vv_ : Option Value) (hh_ : Heap) (LL_ : List Loc) : Prop := vv_ = some (.int (2 : Int32)) ∧ Fr n0 LL_ ∧ hh_ = h0
set_option maxRecDepth 65536 in
set_option maxHeartbeats 40000000 in
theorem rm_nbl_1 (l : Launch) (Z : State) (a0 : Array Value) (hw : ∀ d ∈ tables_1, d.before a0 Z = true) (ws : List Jvm.Cond)  (h0 : Heap) (n0 : Nat) (Z0 : n0 ≤ h0.size) :
    MetFree l (⟨"java/lang/StringUTF16", "newBytesLength", "(I)I"⟩ : MethodName) (head1 (Jvm.Cond.code (⟨"java/lang/StringUTF16", "newBytesLength", "(I)I"⟩ : MethodName) jdk_52_method_3_code 1 (some .int) :: ws) ({ frames := 0, cells := 0, slots := 0, locals := 0 } : Room)) (fun aa_ U => aa_ = #[(.int (1 : Int32))] ∧ Z.Warmed39 U.vm ∧ U.heap = h0) (fun _ _ _ _ _ => True) (fun _ U o U' => ∃ vv_ LL_, o = .returned vv_ ∧ Q_nbl_1 Z  h0 n0 vv_ U'.heap LL_ ∧ FrameEnd U o U' LL_ 0 0) := by
  refine MetFree.of_bodySF (plainFor_of_name pn_java_lang_StringUTF16) hisR ?_
  intro p e s m args below meth c s₁ Bd hml0 hP hK
  obtain ⟨rfl, hZ, hh⟩ := hP
  have hx := Bd.exec
  have hby := Bd.bytes
  have hml : c.maxLocals = 1 := hml0
  have hown : s.vm.findClass "java/lang/StringUTF16" = some m.cls := findClass_of_methodNamed Bd.named
  have hnm := (name_of_methodNamed Bd.named Bd.method).1
  have X0 : Stand p l e ({ frames := 0, cells := 0, slots := 0, locals := 0 } : Room) s m #[(.int (1 : Int32))] below meth c s₁ [] 0 0 := Stand.of_body Bd
  have e0 : s₁.heap = h0 := by rw [← hh, Bd.state]; rfl
  have N0 := Fr.nil n0
  have ef : entryFrame m #[(.int (1 : Int32))] 1 = mkF m 0 #[.val (.int (1 : Int32))] [] := by first | (simp [entryFrame, mkF, argsToLocals, Value.category]; done) | rfl
  refine Fin.start (Q := Q_nbl_1 Z  h0 n0) ef ?_
  refine Fin.by (fun tt_ kk_ => XS.iloadN X0.here hx rfl (hb hby d_jdk_52_method_3_0) rfl kk_) ?_
  show Fin _ _ _ _ _ _ _ (s₁.setTop (mkF m 1 #[.val (.int 1)] [(.int 1)]))
  refine Fin.by (fun tt_ kk_ => XS.ifYes X0.here hx rfl (pc0 := 1) (pc' := 12) rfl (hb hby d_jdk_52_method_3_1) rfl ((if0 _ _).trans (flt (by decide : ¬ (1 : Int32) < (0 : Int32))).2.1) (by decide) (by decide) kk_) ?_
  refine Fin.by (fun tt_ kk_ => XS.iloadN X0.here hx rfl (hb hby d_jdk_52_method_3_12) rfl kk_) ?_
  refine Fin.by (fun tt_ kk_ => X0.ldcInt hx hown (mvT hZ (w_ hw 88 rfl)) (g := (mkF m 13 #[.val (.int 1)] [(.int 1)])) rfl (hb hby d_jdk_52_method_3_13) _ kk_) ?_
  show Fin _ _ _ _ _ _ _ (s₁.setTop (mkF m 15 #[.val (.int 1)] [(.int 1073741823), (.int 1)]))
  refine Fin.by (fun tt_ kk_ => XS.icmpYes X0.here hx rfl (pc0 := 15) (pc' := 55) rfl (hb hby d_jdk_52_method_3_15) rfl (tlt (by decide : (1 : Int32) < (1073741823 : Int32))).1 (by decide) (by decide) kk_) ?_
  refine Fin.by (fun tt_ kk_ => XS.iloadN X0.here hx rfl (hb hby d_jdk_52_method_3_55) rfl (XS.iconst X0.here hx rfl (hb hby d_jdk_52_method_3_56) (XS.ishl X0.here hx rfl (hb hby d_jdk_52_method_3_57) rfl kk_))) ?_
  show Fin _ _ _ _ _ _ _ (s₁.setTop (mkF m 58 #[.val (.int 1)] [(.int 2)]))
  exact Fin.ret (v := some (.int (2 : Int32))) X0 (fun h => by rw [Bd.returns] at h; cases h) Bd.notSynchronized (by rw [e0]; exact ⟨rfl, N0, rfl⟩) (by decide) (by decide) (fun fs hr => retI X0 hx Bd.returns (hb hby d_jdk_52_method_3_58) hr)
abbrev y_8 : MethodName := (⟨"java/lang/StringUTF16", "newBytesLength", "(I)I"⟩ : MethodName)
theorem d_jdk_52_method_2_0 : decode jdk_52_method_2_code 0 = .ok (.iload_n 0, 1) := by decide +kernel
theorem pd_154 : parseMethodDescriptor "(I)I" = some ⟨[.int], some .int⟩ := by decide +kernel
theorem d_jdk_52_method_2_1 : decode jdk_52_method_2_code 1 = .ok (.invokestatic 11, 3) := by decide +kernel
theorem d_jdk_52_method_2_4 : decode jdk_52_method_2_code 4 = .ok (.newarray .byte, 2) := by decide +kernel
theorem d_jdk_52_method_2_6 : decode jdk_52_method_2_code 6 = .ok (.areturn, 1) := by decide +kernel
def Q_nbf_1 (Z : State)  (h0 : Heap) (n0 : Nat) (vv_ : Option Value) (hh_ : Heap) (LL_ : List Loc) : Prop := ∃ (t : Addr), ∃ (k : ClassId), vv_ = some (.ref t) ∧ Fr n0 LL_ ∧ Keep h0 hh_ [] ∧ h0.size ≤ t ∧ Arv Z hh_ t k .byte (2 : Int32) [(.int (0 : Int32)), (.int (0 : Int32))] (.int (0 : Int32))
set_option maxRecDepth 65536 in
set_option maxHeartbeats 40000000 in
theorem rm_nbf_1 (l : Launch) (Z : State) (a0 : Array Value) (hw : ∀ d ∈ tables_1, d.before a0 Z = true) (ws : List Jvm.Cond)  (h0 : Heap) (n0 : Nat) (Z0 : n0 ≤ h0.size) :
    MetFree l (⟨"java/lang/StringUTF16", "newBytesFor", "(I)[B"⟩ : MethodName) (head1 (Jvm.Cond.code (⟨"java/lang/StringUTF16", "newBytesFor", "(I)[B"⟩ : MethodName) jdk_52_method_2_code 1 (some (.array .byte)) :: ws) ({ frames := 1, cells := 1, slots := 2, locals := 12 } : Room)) (fun aa_ U => aa_ = #[(.int (1 : Int32))] ∧ Z.Warmed39 U.vm ∧ U.heap = h0) (fun _ _ _ _ _ => True) (fun _ U o U' => ∃ vv_ LL_, o = .returned vv_ ∧ Q_nbf_1 Z  h0 n0 vv_ U'.heap LL_ ∧ FrameEnd U o U' LL_ 1 2) := by
  refine MetFree.of_bodySF (plainFor_of_name pn_java_lang_StringUTF16) hisR ?_
  intro p e s m args below meth c s₁ Bd hml0 hP hK
  obtain ⟨rfl, hZ, hh⟩ := hP
  have hx := Bd.exec
  have hby := Bd.bytes
  have hml : c.maxLocals = 1 := hml0
  have hown : s.vm.findClass "java/lang/StringUTF16" = some m.cls := findClass_of_methodNamed Bd.named
  have hnm := (name_of_methodNamed Bd.named Bd.method).1
  have X0 : Stand p l e ({ frames := 1, cells := 1, slots := 2, locals := 12 } : Room) s m #[(.int (1 : Int32))] below meth c s₁ [] 0 0 := Stand.of_body Bd
  have e0 : s₁.heap = h0 := by rw [← hh, Bd.state]; rfl
  have N0 := Fr.nil n0
  have ef : entryFrame m #[(.int (1 : Int32))] 1 = mkF m 0 #[.val (.int (1 : Int32))] [] := by first | (simp [entryFrame, mkF, argsToLocals, Value.category]; done) | rfl
  refine Fin.start (Q := Q_nbf_1 Z  h0 n0) ef ?_
  refine Fin.by (fun tt_ kk_ => XS.iloadN X0.here hx rfl (hb hby d_jdk_52_method_2_0) rfl kk_) ?_
  obtain ⟨v101, _, ⟨T101, L101, k101, n101⟩, -, X101, ⟨Lc101, hQ101, l101, y101, z101⟩, st101⟩ := Jvm.LawKit.callS X0 hx (y := y_8) hown (mvT hZ (w_ hw 85 rfl)) (mvT hZ (w_ hw 86 rfl)) (mvT hZ (w_ hw 71 rfl)) (mvT hZ (w_ hw 87 rfl)) (by decide) (backOf (W := 0) (rm_nbl_1 l Z a0 hw []  h0 n0 Z0 ) hZ (w_ hw 87 rfl) (w_ hw 71 rfl) (by decide) (by decide)) (g := (mkF m 1 #[.val (.int 1)] [(.int 1)])) rfl (by rw [hml]; rfl) (argsL := [(.int 1)]) (rest := []) (lenOf pd_154 rfl) rfl (by show 2 * 0 + _ ≤ _; exact Nat.le_of_eq rfl) (hb hby d_jdk_52_method_2_1) (fun _ _ => ⟨rfl, e0, (by decide : 0 + 0 ≤ _), (by decide : 0 + 0 ≤ _)⟩)
  dsimp only [Pt.U, Pt.locs, Pt.cells, Pt.slots] at X101 l101 y101 z101 st101 hQ101
  subst l101 y101 z101
  obtain ⟨rfl, Nq101, e101_⟩ := hQ101
  have N101_ := Fr.app N0 Nq101
  refine Fin.by (fun tt_ kk_ => st101 tt_ kk_) ?_
  have e101 := e101_
  obtain ⟨T102, h102, k102, X102, e102, E102, A102, st102⟩ := newP X101 hx hZ (w_ hw 21 rfl) e101 (g := (mkF m 4 #[.val (.int 1)] [(.int 2)])) rfl (hb hby d_jdk_52_method_2_4) rfl (by decide) (cap := 2) (by decide) (by decide) (by decide) (by decide)
  obtain ⟨a102, g102⟩ : ∃ z, z = h0.size := ⟨_, rfl⟩
  rw [← g102] at A102 st102
  refine Fin.by (fun tt_ kk_ => st102 tt_ kk_) ?_
  have V102 : Arv Z h102 a102 k102 .byte (2 : Int32) [(.int (0 : Int32)), (.int (0 : Int32))] (.int (0 : Int32)) := (Arv.new A102 (by decide)).pad (pad_rep [] (.int (0 : Int32)) 2)
  have kp103 : Keep h0 h102 [] := (Keep.refl h0 []).ext E102
  show Fin _ _ _ _ _ _ _ (T102.setTop (mkF m 6 #[.val (.int 1)] [(.ref a102)]))
  exact Fin.ret (v := some (.ref a102)) X102 (fun h => by rw [Bd.returns] at h; cases h) Bd.notSynchronized (by rw [e102]; exact ⟨a102, k102, rfl, N101_, kp103, (Nat.le_trans (Nat.le_refl _) (Nat.le_of_eq g102.symm)), V102⟩) (by decide) (by decide) (fun fs hr => retA X102 hx Bd.returns rfl rfl (hb hby d_jdk_52_method_2_6) hr)
abbrev y_9 : MethodName := (⟨"java/lang/StringUTF16", "newBytesFor", "(I)[B"⟩ : MethodName)
abbrev y_10 : MethodName := (⟨"java/lang/StringUTF16", "putChar", "([BII)V"⟩ : MethodName)
theorem d_jdk_52_method_14_0 : decode jdk_52_method_14_code 0 = .ok (.iload_n 2, 1) := by decide +kernel
theorem pd_159 : parseMethodDescriptor "(I)[B" = some ⟨[.int], some (.array .byte)⟩ := by decide +kernel
theorem d_jdk_52_method_14_1 : decode jdk_52_method_14_code 1 = .ok (.invokestatic 107, 3) := by decide +kernel
theorem d_jdk_52_method_14_4 : decode jdk_52_method_14_code 4 = .ok (.astore_n 3, 1) := by decide +kernel
theorem d_jdk_52_method_14_5 : decode jdk_52_method_14_code 5 = .ok (.iconst 0, 1) := by decide +kernel
theorem d_jdk_52_method_14_6 : decode jdk_52_method_14_code 6 = .ok (.istore 4, 2) := by decide +kernel
theorem d_jdk_52_method_14_8 : decode jdk_52_method_14_code 8 = .ok (.iload 4, 2) := by decide +kernel
theorem d_jdk_52_method_14_10 : decode jdk_52_method_14_code 10 = .ok (.iload_n 2, 1) := by decide +kernel
theorem d_jdk_52_method_14_11 : decode jdk_52_method_14_code 11 = .ok (.if_icmp .ge 21, 3) := by decide +kernel
theorem d_jdk_52_method_14_14 : decode jdk_52_method_14_code 14 = .ok (.aload_n 3, 1) := by decide +kernel
theorem d_jdk_52_method_14_15 : decode jdk_52_method_14_code 15 = .ok (.iload 4, 2) := by decide +kernel
theorem d_jdk_52_method_14_17 : decode jdk_52_method_14_code 17 = .ok (.aload_n 0, 1) := by decide +kernel
theorem d_jdk_52_method_14_18 : decode jdk_52_method_14_code 18 = .ok (.iload_n 1, 1) := by decide +kernel
theorem d_jdk_52_method_14_19 : decode jdk_52_method_14_code 19 = .ok (.caload, 1) := by decide +kernel
theorem pd_172 : parseMethodDescriptor "([BII)V" = some ⟨[(.array .byte), .int, .int], none⟩ := by decide +kernel
theorem d_jdk_52_method_14_20 : decode jdk_52_method_14_code 20 = .ok (.invokestatic 111, 3) := by decide +kernel
theorem d_jdk_52_method_14_23 : decode jdk_52_method_14_code 23 = .ok (.iinc 1 1, 3) := by decide +kernel
theorem d_jdk_52_method_14_26 : decode jdk_52_method_14_code 26 = .ok (.iinc 4 1, 3) := by decide +kernel
theorem d_jdk_52_method_14_29 : decode jdk_52_method_14_code 29 = .ok (.goto (-21), 3) := by decide +kernel
theorem d_jdk_52_method_14_32 : decode jdk_52_method_14_code 32 = .ok (.aload_n 3, 1) := by decide +kernel
theorem d_jdk_52_method_14_33 : decode jdk_52_method_14_code 33 = .ok (.areturn, 1) := by decide +kernel
def Q_tob_1 (Z : State) (b : Addr) (kb : ClassId) (c0 : Int32) (h0 : Heap) (n0 : Nat) (vv_ : Option Value) (hh_ : Heap) (LL_ : List Loc) : Prop := ∃ (t : Addr), ∃ (k : ClassId), vv_ = some (.ref t) ∧ Fr n0 LL_ ∧ Keep h0 hh_ [] ∧ h0.size ≤ t ∧ Arv Z hh_ t k .byte (2 : Int32) [(.int (((c0 >>> ((0 : Int32) &&& 31)).toInt8.toInt32).toInt8.toInt32)), (.int (((c0 >>> ((8 : Int32) &&& 31)).toInt8.toInt32).toInt8.toInt32))] (.int (0 : Int32))
set_option maxRecDepth 65536 in
set_option maxHeartbeats 40000000 in
theorem rm_tob_1 (l : Launch) (Z : State) (a0 : Array Value) (hw : ∀ d ∈ tables_1, d.before a0 Z = true) (ws : List Jvm.Cond) (b : Addr) (kb : ClassId) (c0 : Int32) (h0 : Heap) (n0 : Nat) (Z0 : n0 ≤ h0.size) (Ab : Arv Z h0 b kb .char (1 : Int32) [(.int c0)] (.int (0 : Int32))) (S6 : Sta Z Z.heap "java/lang/StringUTF16" "$assertionsDisabled" "Z" (.int (1 : Int32))) (S7 : Sta Z Z.heap "java/lang/StringUTF16" "HI_BYTE_SHIFT" "I" (.int (0 : Int32))) (S8 : Sta Z Z.heap "java/lang/StringUTF16" "LO_BYTE_SHIFT" "I" (.int (8 : Int32))) (OL : Old Z n0 h0) :
    MetFree l (⟨"java/lang/StringUTF16", "toBytes", "([CII)[B"⟩ : MethodName) (head1 (Jvm.Cond.code (⟨"java/lang/StringUTF16", "toBytes", "([CII)[B"⟩ : MethodName) jdk_52_method_14_code 5 (some (.array .byte)) :: ws) ({ frames := 2, cells := 1, slots := 2, locals := 24 } : Room)) (fun aa_ U => aa_ = #[(.ref b), (.int (0 : Int32)), (.int (1 : Int32))] ∧ Z.Warmed39 U.vm ∧ U.heap = h0) (fun _ _ _ _ _ => True) (fun _ U o U' => ∃ vv_ LL_, o = .returned vv_ ∧ Q_tob_1 Z b kb c0 h0 n0 vv_ U'.heap LL_ ∧ FrameEnd U o U' LL_ 1 2) := by
  refine MetFree.of_bodySF (plainFor_of_name pn_java_lang_StringUTF16) hisR ?_
  intro p e s m args below meth c s₁ Bd hml0 hP hK
  obtain ⟨rfl, hZ, hh⟩ := hP
  have hx := Bd.exec
  have hby := Bd.bytes
  have hml : c.maxLocals = 5 := hml0
  have hown : s.vm.findClass "java/lang/StringUTF16" = some m.cls := findClass_of_methodNamed Bd.named
  have hnm := (name_of_methodNamed Bd.named Bd.method).1
  have X0 : Stand p l e ({ frames := 2, cells := 1, slots := 2, locals := 24 } : Room) s m #[(.ref b), (.int (0 : Int32)), (.int (1 : Int32))] below meth c s₁ [] 0 0 := Stand.of_body Bd
  have e0 : s₁.heap = h0 := by rw [← hh, Bd.state]; rfl
  have N0 := Fr.nil n0
  have ef : entryFrame m #[(.ref b), (.int (0 : Int32)), (.int (1 : Int32))] 5 = mkF m 0 #[.val (.ref b), .val (.int (0 : Int32)), .val (.int (1 : Int32)), .unset, .unset] [] := by first | (simp [entryFrame, mkF, argsToLocals, Value.category]; done) | rfl
  refine Fin.start (Q := Q_tob_1 Z b kb c0 h0 n0) ef ?_
  refine Fin.by (fun tt_ kk_ => XS.iloadN X0.here hx rfl (hb hby d_jdk_52_method_14_0) rfl kk_) ?_
  obtain ⟨v101, _, ⟨T101, L101, k101, n101⟩, -, X101, ⟨Lc101, hQ101, l101, y101, z101⟩, st101⟩ := Jvm.LawKit.callS X0 hx (y := y_9) hown (mvT hZ (w_ hw 82 rfl)) (mvT hZ (w_ hw 83 rfl)) (mvT hZ (w_ hw 71 rfl)) (mvT hZ (w_ hw 84 rfl)) (by decide) (backOf (W := 0) (rm_nbf_1 l Z a0 hw []  h0 n0 Z0 ) hZ (w_ hw 84 rfl) (w_ hw 71 rfl) (by decide) (by decide)) (g := (mkF m 1 #[.val (.ref b), .val (.int 0), .val (.int 1), .unset, .unset] [(.int 1)])) rfl (by rw [hml]; rfl) (argsL := [(.int 1)]) (rest := []) (lenOf pd_159 rfl) rfl (by show 2 * 0 + _ ≤ _; exact Nat.le_of_eq rfl) (hb hby d_jdk_52_method_14_1) (fun _ _ => ⟨rfl, e0, (by decide : 0 + 1 ≤ _), (by decide : 0 + 2 ≤ _)⟩)
  dsimp only [Pt.U, Pt.locs, Pt.cells, Pt.slots] at X101 l101 y101 z101 st101 hQ101
  subst l101 y101 z101
  obtain ⟨t102, k103, rfl, Nq101, p101_0, p101_1, p101_2⟩ := hQ101
  have N101_ := Fr.app N0 Nq101
  refine Fin.by (fun tt_ kk_ => st101 tt_ kk_) ?_
  refine Fin.by (fun tt_ kk_ => XS.astoreN X101.here hx rfl (hb hby d_jdk_52_method_14_4) rfl rfl (l' := #[.val (.ref b), .val (.int 0), .val (.int 1), .val (.ref t102), .unset]) rfl (XS.iconst X101.here hx rfl (hb hby d_jdk_52_method_14_5) (XS.istore X101.here hx rfl (hb hby d_jdk_52_method_14_6) rfl (l' := #[.val (.ref b), .val (.int 0), .val (.int 1), .val (.ref t102), .val (.int 0)]) rfl (XS.iload X101.here hx rfl (hb hby d_jdk_52_method_14_8) rfl (XS.iloadN X101.here hx rfl (hb hby d_jdk_52_method_14_10) rfl kk_))))) ?_
  show Fin _ _ _ _ _ _ _ (T101.setTop (mkF m 11 #[.val (.ref b), .val (.int 0), .val (.int 1), .val (.ref t102), .val (.int 0)] [(.int 1), (.int 0)]))
  refine Fin.by (fun tt_ kk_ => XS.icmpNo X101.here hx rfl (hb hby d_jdk_52_method_14_11) rfl (tlt (by decide : (0 : Int32) < (1 : Int32))).2.1 kk_) ?_
  refine Fin.by (fun tt_ kk_ => XS.aloadN X101.here hx rfl (hb hby d_jdk_52_method_14_14) rfl rfl (XS.iload X101.here hx rfl (hb hby d_jdk_52_method_14_15) rfl (XS.aloadN X101.here hx rfl (hb hby d_jdk_52_method_14_17) rfl rfl (XS.iloadN X101.here hx rfl (hb hby d_jdk_52_method_14_18) rfl kk_)))) ?_
  have A104 : Arv Z T101.heap b kb .char (1 : Int32) [(.int c0)] (.int (0 : Int32)) := (Ab.keep p101_0 nin0)
  obtain ⟨cl105, Ar105, q105, S105, N105, H105, G105⟩ := id A104
  have hin105 : ¬ ((0 : Int32) < 0 ∨ cl105.slots.size ≤ (0 : Int32).toNatClampNeg) := inb_of S105 ⟨by decide, by decide⟩
  refine Fin.by (fun tt_ kk_ => X101.caload hx (j := (0 : Int32)) (v := (.int c0)) (Ar105.1) (State.isArrayOf_alike hZ.alike Ar105.2.1) Ar105.2.2 hin105 (Has.at H105 hin105 rfl) (g := (mkF m 19 #[.val (.ref b), .val (.int 0), .val (.int 1), .val (.ref t102), .val (.int 0)] [(.int 0), (.ref b), (.int 0), (.ref t102)])) rfl rfl (hb hby d_jdk_52_method_14_19) _ kk_) ?_
  have g106 : n0 ≤ t102 := Nat.le_trans Z0 p101_1
  have O107 : Old Z n0 T101.heap := (OL.keep p101_0 all0)
  have z108 : n0 ≤ T101.heap.size := Nat.le_trans Z0 p101_0.1
  obtain ⟨v109, _, ⟨T109, L109, k109, n109⟩, -, X109, ⟨Lc109, hQ109, l109, y109, z109⟩, st109⟩ := Jvm.LawKit.callS X101 hx (y := y_10) hown (mvT hZ (w_ hw 89 rfl)) (mvT hZ (w_ hw 90 rfl)) (mvT hZ (w_ hw 71 rfl)) (mvT hZ (w_ hw 91 rfl)) (by decide) (backOf (W := 0) (rm_pch0 l Z a0 hw [] t102 k103 (2 : Int32) ([(.int (0 : Int32)), (.int (0 : Int32))] : List Value) c0 T101.heap n0 z108 (Nat.le_of_ble_eq_true rfl) (Nat.le_of_ble_eq_true rfl) (by decide) (by decide) p101_2 g106 S6 S7 S8 O107) hZ (w_ hw 91 rfl) (w_ hw 71 rfl) (by decide) (by decide)) (g := (mkF m 20 #[.val (.ref b), .val (.int 0), .val (.int 1), .val (.ref t102), .val (.int 0)] [(.int c0), (.int 0), (.ref t102)])) rfl (by rw [hml]; rfl) (argsL := [(.ref t102), (.int 0), (.int c0)]) (rest := []) (lenOf pd_172 rfl) rfl (by show 2 * 0 + _ ≤ _; exact Nat.le_of_eq rfl) (hb hby d_jdk_52_method_14_20) (fun _ _ => ⟨rfl, rfl, (by decide : 1 + 0 ≤ _), (by decide : 2 + 0 ≤ _)⟩)
  dsimp only [Pt.U, Pt.locs, Pt.cells, Pt.slots] at X109 l109 y109 z109 st109 hQ109
  subst l109 y109 z109
  obtain ⟨rfl, Nq109, p109_0, p109_1⟩ := hQ109
  have N109_ := Fr.app N101_ Nq109
  refine Fin.by (fun tt_ kk_ => st109 tt_ kk_) ?_
  have V110 : Arv Z T109.heap t102 k103 .byte (2 : Int32) [(.int (((c0 >>> ((0 : Int32) &&& 31)).toInt8.toInt32).toInt8.toInt32)), (.int (((c0 >>> ((8 : Int32) &&& 31)).toInt8.toInt32).toInt8.toInt32))] (.int (0 : Int32)) := p109_1
  refine Fin.by (fun tt_ kk_ => XS.iinc X109.here hx rfl (hb hby d_jdk_52_method_14_23) rfl (l' := #[.val (.ref b), .val (.int 1), .val (.int 1), .val (.ref t102), .val (.int 0)]) rfl (XS.iinc X109.here hx rfl (hb hby d_jdk_52_method_14_26) rfl (l' := #[.val (.ref b), .val (.int 1), .val (.int 1), .val (.ref t102), .val (.int 1)]) rfl (XS.goto X109.here hx rfl (pc0 := 29) (pc' := 8) rfl (hb hby d_jdk_52_method_14_29) (by decide) (by decide) (XS.iload X109.here hx rfl (hb hby d_jdk_52_method_14_8) rfl (XS.iloadN X109.here hx rfl (hb hby d_jdk_52_method_14_10) rfl kk_))))) ?_
  show Fin _ _ _ _ _ _ _ (T109.setTop (mkF m 11 #[.val (.ref b), .val (.int 1), .val (.int 1), .val (.ref t102), .val (.int 1)] [(.int 1), (.int 1)]))
  refine Fin.by (fun tt_ kk_ => XS.icmpYes X109.here hx rfl (pc0 := 11) (pc' := 32) rfl (hb hby d_jdk_52_method_14_11) rfl (flt (by decide : ¬ (1 : Int32) < (1 : Int32))).2.1 (by decide) (by decide) kk_) ?_
  refine Fin.by (fun tt_ kk_ => XS.aloadN X109.here hx rfl (hb hby d_jdk_52_method_14_32) rfl rfl kk_) ?_
  have kp111 : Keep h0 T101.heap [] := (Keep.refl h0 []).trans p101_0 all0
  have kp112 : Keep h0 T109.heap [] := kp111.trans p109_0 (allS (Or.inr (Nat.le_trans (Nat.le_refl _) p101_1)) all0)
  show Fin _ _ _ _ _ _ _ (T109.setTop (mkF m 33 #[.val (.ref b), .val (.int 1), .val (.int 1), .val (.ref t102), .val (.int 1)] [(.ref t102)]))
  exact Fin.ret (v := some (.ref t102)) X109 (fun h => by rw [Bd.returns] at h; cases h) Bd.notSynchronized (⟨t102, k103, rfl, N109_, kp112, (Nat.le_trans (Nat.le_refl _) p101_1), V110⟩) (by decide) (by decide) (fun fs hr => retA X109 hx Bd.returns rfl rfl (hb hby d_jdk_52_method_14_33) hr)
abbrev y_11 : MethodName := (⟨"java/lang/StringUTF16", "compress", "([CI[BII)I"⟩ : MethodName)
abbrev y_12 : MethodName := (⟨"java/lang/StringUTF16", "toBytes", "([CII)[B"⟩ : MethodName)
theorem d_jdk_52_method_16_0 : decode jdk_52_method_16_code 0 = .ok (.iload_n 2, 1) := by decide +kernel
theorem d_jdk_52_method_16_1 : decode jdk_52_method_16_code 1 = .ok (.newarray .byte, 2) := by decide +kernel
theorem d_jdk_52_method_16_3 : decode jdk_52_method_16_code 3 = .ok (.astore_n 3, 1) := by decide +kernel
theorem d_jdk_52_method_16_4 : decode jdk_52_method_16_code 4 = .ok (.aload_n 0, 1) := by decide +kernel
theorem d_jdk_52_method_16_5 : decode jdk_52_method_16_code 5 = .ok (.iload_n 1, 1) := by decide +kernel
theorem d_jdk_52_method_16_6 : decode jdk_52_method_16_code 6 = .ok (.aload_n 3, 1) := by decide +kernel
theorem d_jdk_52_method_16_7 : decode jdk_52_method_16_code 7 = .ok (.iconst 0, 1) := by decide +kernel
theorem d_jdk_52_method_16_8 : decode jdk_52_method_16_code 8 = .ok (.iload_n 2, 1) := by decide +kernel
theorem pd_187 : parseMethodDescriptor "([CI[BII)I" = some ⟨[(.array .char), .int, (.array .byte), .int, .int], some .int⟩ := by decide +kernel
theorem d_jdk_52_method_16_9 : decode jdk_52_method_16_code 9 = .ok (.invokestatic 115, 3) := by decide +kernel
theorem d_jdk_52_method_16_12 : decode jdk_52_method_16_code 12 = .ok (.istore 4, 2) := by decide +kernel
theorem d_jdk_52_method_16_14 : decode jdk_52_method_16_code 14 = .ok (.iload 4, 2) := by decide +kernel
theorem d_jdk_52_method_16_16 : decode jdk_52_method_16_code 16 = .ok (.iload_n 2, 1) := by decide +kernel
theorem d_jdk_52_method_16_17 : decode jdk_52_method_16_code 17 = .ok (.if_icmp .eq 40, 3) := by decide +kernel
theorem d_jdk_52_method_16_57 : decode jdk_52_method_16_code 57 = .ok (.aload_n 3, 1) := by decide +kernel
theorem d_jdk_52_method_16_58 : decode jdk_52_method_16_code 58 = .ok (.areturn, 1) := by decide +kernel
theorem d_jdk_52_method_16_20 : decode jdk_52_method_16_code 20 = .ok (.aload_n 0, 1) := by decide +kernel
theorem d_jdk_52_method_16_21 : decode jdk_52_method_16_code 21 = .ok (.iload_n 1, 1) := by decide +kernel
theorem d_jdk_52_method_16_22 : decode jdk_52_method_16_code 22 = .ok (.iload_n 2, 1) := by decide +kernel
theorem pd_198 : parseMethodDescriptor "([CII)[B" = some ⟨[(.array .char), .int, .int], some (.array .byte)⟩ := by decide +kernel
theorem d_jdk_52_method_16_23 : decode jdk_52_method_16_code 23 = .ok (.invokestatic 119, 3) := by decide +kernel
theorem d_jdk_52_method_16_26 : decode jdk_52_method_16_code 26 = .ok (.astore 5, 2) := by decide +kernel
theorem d_jdk_52_method_16_28 : decode jdk_52_method_16_code 28 = .ok (.aload 5, 2) := by decide +kernel
theorem d_jdk_52_method_16_30 : decode jdk_52_method_16_code 30 = .ok (.iload 4, 2) := by decide +kernel
theorem d_jdk_52_method_16_32 : decode jdk_52_method_16_code 32 = .ok (.invokestatic 71, 3) := by decide +kernel
theorem d_jdk_52_method_16_35 : decode jdk_52_method_16_code 35 = .ok (.sipush 255, 3) := by decide +kernel
theorem d_jdk_52_method_16_38 : decode jdk_52_method_16_code 38 = .ok (.if_icmp .gt 16, 3) := by decide +kernel
theorem d_jdk_52_method_16_54 : decode jdk_52_method_16_code 54 = .ok (.aload 5, 2) := by decide +kernel
theorem d_jdk_52_method_16_56 : decode jdk_52_method_16_code 56 = .ok (.areturn, 1) := by decide +kernel
def Q_c3_1 (Z : State) (b : Addr) (kb : ClassId) (c0 : Int32) (h0 : Heap) (n0 : Nat) (vv_ : Option Value) (hh_ : Heap) (LL_ : List Loc) : Prop := ∃ (t : Addr), ∃ (k : ClassId), ∃ (cd : Int32), ∃ (N2 : Int32), ∃ (vs : List Value), vv_ = some (.ref t) ∧ Fr n0 LL_ ∧ Keep h0 hh_ [] ∧ h0.size ≤ t ∧ Arv Z hh_ t k .byte N2 vs (.int (0 : Int32)) ∧ (StrChars.Road.CodA ([c0] : List Int32) cd N2 vs)
set_option maxRecDepth 65536 in
set_option maxHeartbeats 40000000 in
theorem rm_c3_1 (l : Launch) (Z : State) (a0 : Array Value) (hw : ∀ d ∈ tables_1, d.before a0 Z = true) (ws : List Jvm.Cond) (b : Addr) (kb : ClassId) (c0 : Int32) (h0 : Heap) (n0 : Nat) (Z0 : n0 ≤ h0.size) (Ab : Arv Z h0 b kb .char (1 : Int32) [(.int c0)] (.int (0 : Int32))) (hb_0 : ¬ c0 < 0 ∧ ¬ (65535 : Int32) < c0) (S6 : Sta Z Z.heap "java/lang/StringUTF16" "$assertionsDisabled" "Z" (.int (1 : Int32))) (S7 : Sta Z Z.heap "java/lang/StringUTF16" "HI_BYTE_SHIFT" "I" (.int (0 : Int32))) (S8 : Sta Z Z.heap "java/lang/StringUTF16" "LO_BYTE_SHIFT" "I" (.int (8 : Int32))) (OL : Old Z n0 h0) :
    MetFree l (⟨"java/lang/StringUTF16", "compress", "([CII)[B"⟩ : MethodName) (head1 (Jvm.Cond.code (⟨"java/lang/StringUTF16", "compress", "([CII)[B"⟩ : MethodName) jdk_52_method_16_code 6 (some (.array .byte)) :: ws) ({ frames := 3, cells := 2, slots := 3, locals := 40 } : Room)) (fun aa_ U => aa_ = #[(.ref b), (.int (0 : Int32)), (.int (1 : Int32))] ∧ Z.Warmed39 U.vm ∧ U.heap = h0) (fun _ _ _ _ _ => True) (fun _ U o U' => ∃ vv_ LL_, o = .returned vv_ ∧ Q_c3_1 Z b kb c0 h0 n0 vv_ U'.heap LL_ ∧ FrameEnd U o U' LL_ 2 3) := by
  refine MetFree.of_bodySF (plainFor_of_name pn_java_lang_StringUTF16) hisR ?_
  intro p e s m args below meth c s₁ Bd hml0 hP hK
  obtain ⟨rfl, hZ, hh⟩ := hP
  have hx := Bd.exec
  have hby := Bd.bytes
  have hml : c.maxLocals = 6 := hml0
  have hown : s.vm.findClass "java/lang/StringUTF16" = some m.cls := findClass_of_methodNamed Bd.named
  have hnm := (name_of_methodNamed Bd.named Bd.method).1
  have X0 : Stand p l e ({ frames := 3, cells := 2, slots := 3, locals := 40 } : Room) s m #[(.ref b), (.int (0 : Int32)), (.int (1 : Int32))] below meth c s₁ [] 0 0 := Stand.of_body Bd
  have e0 : s₁.heap = h0 := by rw [← hh, Bd.state]; rfl
  have N0 := Fr.nil n0
  have ef : entryFrame m #[(.ref b), (.int (0 : Int32)), (.int (1 : Int32))] 6 = mkF m 0 #[.val (.ref b), .val (.int (0 : Int32)), .val (.int (1 : Int32)), .unset, .unset, .unset] [] := by first | (simp [entryFrame, mkF, argsToLocals, Value.category]; done) | rfl
  refine Fin.start (Q := Q_c3_1 Z b kb c0 h0 n0) ef ?_
  refine Fin.by (fun tt_ kk_ => XS.iloadN X0.here hx rfl (hb hby d_jdk_52_method_16_0) rfl kk_) ?_
  obtain ⟨T101, h101, k101, X101, e101, E101, A101, st101⟩ := newP X0 hx hZ (w_ hw 21 rfl) e0 (g := (mkF m 1 #[.val (.ref b), .val (.int 0), .val (.int 1), .unset, .unset, .unset] [(.int 1)])) rfl (hb hby d_jdk_52_method_16_1) rfl (by decide) (cap := 1) (by decide) (by decide) (by decide) (by decide)
  obtain ⟨a101, g101⟩ : ∃ z, z = h0.size := ⟨_, rfl⟩
  rw [← g101] at A101 st101
  refine Fin.by (fun tt_ kk_ => st101 tt_ kk_) ?_
  have V101 : Arv Z h101 a101 k101 .byte (1 : Int32) [(.int (0 : Int32))] (.int (0 : Int32)) := (Arv.new A101 (by decide)).pad (pad_rep [] (.int (0 : Int32)) 1)
  refine Fin.by (fun tt_ kk_ => XS.astoreN X101.here hx rfl (hb hby d_jdk_52_method_16_3) rfl rfl (l' := #[.val (.ref b), .val (.int 0), .val (.int 1), .val (.ref a101), .unset, .unset]) rfl (XS.aloadN X101.here hx rfl (hb hby d_jdk_52_method_16_4) rfl rfl (XS.iloadN X101.here hx rfl (hb hby d_jdk_52_method_16_5) rfl (XS.aloadN X101.here hx rfl (hb hby d_jdk_52_method_16_6) rfl rfl (XS.iconst X101.here hx rfl (hb hby d_jdk_52_method_16_7) (XS.iloadN X101.here hx rfl (hb hby d_jdk_52_method_16_8) rfl kk_)))))) ?_
  have A102 : Arv Z h101 b kb .char (1 : Int32) [(.int c0)] (.int (0 : Int32)) := (Ab.ext E101)
  have g103 : n0 ≤ a101 := Nat.le_trans Z0 (Nat.le_of_eq g101.symm)
  have ne104 : b ≠ a101 := Nat.ne_of_lt (Nat.lt_of_lt_of_le Ab.lt (Nat.le_of_eq g101.symm))
  have z105 : n0 ≤ h101.size := Nat.le_trans Z0 E101.1
  obtain ⟨v106, _, ⟨T106, L106, k106, n106⟩, -, X106, ⟨Lc106, hQ106, l106, y106, z106⟩, st106⟩ := Jvm.LawKit.callS X101 hx (y := y_11) hown (mvT hZ (w_ hw 73 rfl)) (mvT hZ (w_ hw 74 rfl)) (mvT hZ (w_ hw 71 rfl)) (mvT hZ (w_ hw 75 rfl)) (by decide) (backOf (W := 0) (rm_c5_1 l Z a0 hw [] b kb a101 k101 c0 h101 n0 z105 A102 V101 g103 ne104) hZ (w_ hw 75 rfl) (w_ hw 71 rfl) (by decide) (by decide)) (g := (mkF m 9 #[.val (.ref b), .val (.int 0), .val (.int 1), .val (.ref a101), .unset, .unset] [(.int 1), (.int 0), (.ref a101), (.int 0), (.ref b)])) rfl (by rw [hml]; rfl) (argsL := [(.ref b), (.int 0), (.ref a101), (.int 0), (.int 1)]) (rest := []) (lenOf pd_187 rfl) rfl (by show 2 * 0 + _ ≤ _; exact Nat.le_of_eq rfl) (hb hby d_jdk_52_method_16_9) (fun _ _ => ⟨rfl, e101, (by decide : 1 + 0 ≤ _), (by decide : 1 + 0 ≤ _)⟩)
  dsimp only [Pt.U, Pt.locs, Pt.cells, Pt.slots] at X106 l106 y106 z106 st106 hQ106
  subst l106 y106 z106
  obtain ⟨r107, vs108, rfl, Nq106, p106_0, p106_1, p106_2⟩ := hQ106
  have N106_ := Fr.app N0 Nq106
  refine Fin.by (fun tt_ kk_ => st106 tt_ kk_) ?_
  rcases p106_2 with ⟨hr, hvs, hx_0⟩ | ⟨hr, hx_0⟩
  · subst hr
    subst hvs
    refine Fin.by (fun tt_ kk_ => XS.istore X106.here hx rfl (hb hby d_jdk_52_method_16_12) rfl (l' := #[.val (.ref b), .val (.int 0), .val (.int 1), .val (.ref a101), .val (.int 1), .unset]) rfl (XS.iload X106.here hx rfl (hb hby d_jdk_52_method_16_14) rfl (XS.iloadN X106.here hx rfl (hb hby d_jdk_52_method_16_16) rfl kk_))) ?_
    show Fin _ _ _ _ _ _ _ (T106.setTop (mkF m 17 #[.val (.ref b), .val (.int 0), .val (.int 1), .val (.ref a101), .val (.int 1), .unset] [(.int 1), (.int 1)]))
    refine Fin.by (fun tt_ kk_ => XS.icmpYes X106.here hx rfl (pc0 := 17) (pc' := 57) rfl (hb hby d_jdk_52_method_16_17) rfl (teq (rfl : (1 : Int32) = (1 : Int32))).1 (by decide) (by decide) kk_) ?_
    refine Fin.by (fun tt_ kk_ => XS.aloadN X106.here hx rfl (hb hby d_jdk_52_method_16_57) rfl rfl kk_) ?_
    have kp109 : Keep h0 h101 [] := (Keep.refl h0 []).ext E101
    have kp110 : Keep h0 T106.heap [] := kp109.trans p106_0 (allS (Or.inr (Nat.le_trans (Nat.le_refl _) (Nat.le_of_eq g101.symm))) all0)
    show Fin _ _ _ _ _ _ _ (T106.setTop (mkF m 58 #[.val (.ref b), .val (.int 0), .val (.int 1), .val (.ref a101), .val (.int 1), .unset] [(.ref a101)]))
    exact Fin.ret (v := some (.ref a101)) X106 (fun h => by rw [Bd.returns] at h; cases h) Bd.notSynchronized (⟨a101, k101, (0 : Int32), (1 : Int32), [(.int ((c0.toInt8.toInt32).toInt8.toInt32))], rfl, N106_, kp110, (Nat.le_trans (Nat.le_refl _) (Nat.le_of_eq g101.symm)), p106_1, (Or.inl ⟨rfl, rfl, by simp [StrChars.lo8], (own_cons hx_0 own_nil)⟩)⟩) (by decide) (by decide) (fun fs hr => retA X106 hx Bd.returns rfl rfl (hb hby d_jdk_52_method_16_58) hr)
  · subst hr
    refine Fin.by (fun tt_ kk_ => XS.istore X106.here hx rfl (hb hby d_jdk_52_method_16_12) rfl (l' := #[.val (.ref b), .val (.int 0), .val (.int 1), .val (.ref a101), .val (.int 0), .unset]) rfl (XS.iload X106.here hx rfl (hb hby d_jdk_52_method_16_14) rfl (XS.iloadN X106.here hx rfl (hb hby d_jdk_52_method_16_16) rfl kk_))) ?_
    show Fin _ _ _ _ _ _ _ (T106.setTop (mkF m 17 #[.val (.ref b), .val (.int 0), .val (.int 1), .val (.ref a101), .val (.int 0), .unset] [(.int 1), (.int 0)]))
    refine Fin.by (fun tt_ kk_ => XS.icmpNo X106.here hx rfl (hb hby d_jdk_52_method_16_17) rfl (feq (by decide : ¬ (0 : Int32) = (1 : Int32))).1 kk_) ?_
    refine Fin.by (fun tt_ kk_ => XS.aloadN X106.here hx rfl (hb hby d_jdk_52_method_16_20) rfl rfl (XS.iloadN X106.here hx rfl (hb hby d_jdk_52_method_16_21) rfl (XS.iloadN X106.here hx rfl (hb hby d_jdk_52_method_16_22) rfl kk_))) ?_
    have A111 : Arv Z T106.heap b kb .char (1 : Int32) [(.int c0)] (.int (0 : Int32)) := (A102.keep p106_0 (ninS ne104 nin0))
    have O112 : Old Z n0 T106.heap := ((OL.ext E101).keep p106_0 (allS g103 all0))
    have z113 : n0 ≤ T106.heap.size := Nat.le_trans z105 p106_0.1
    obtain ⟨v114, _, ⟨T114, L114, k114, n114⟩, -, X114, ⟨Lc114, hQ114, l114, y114, z114⟩, st114⟩ := Jvm.LawKit.callS X106 hx (y := y_12) hown (mvT hZ (w_ hw 79 rfl)) (mvT hZ (w_ hw 80 rfl)) (mvT hZ (w_ hw 71 rfl)) (mvT hZ (w_ hw 81 rfl)) (by decide) (backOf (W := 0) (rm_tob_1 l Z a0 hw [] b kb c0 T106.heap n0 z113 A111 S6 S7 S8 O112) hZ (w_ hw 81 rfl) (w_ hw 71 rfl) (by decide) (by decide)) (g := (mkF m 23 #[.val (.ref b), .val (.int 0), .val (.int 1), .val (.ref a101), .val (.int 0), .unset] [(.int 1), (.int 0), (.ref b)])) rfl (by rw [hml]; rfl) (argsL := [(.ref b), (.int 0), (.int 1)]) (rest := []) (lenOf pd_198 rfl) rfl (by show 2 * 0 + _ ≤ _; exact Nat.le_of_eq rfl) (hb hby d_jdk_52_method_16_23) (fun _ _ => ⟨rfl, rfl, (by decide : 1 + 1 ≤ _), (by decide : 1 + 2 ≤ _)⟩)
    dsimp only [Pt.U, Pt.locs, Pt.cells, Pt.slots] at X114 l114 y114 z114 st114 hQ114
    subst l114 y114 z114
    obtain ⟨t115, k116, rfl, Nq114, p114_0, p114_1, p114_2⟩ := hQ114
    have N114_ := Fr.app N106_ Nq114
    refine Fin.by (fun tt_ kk_ => st114 tt_ kk_) ?_
    refine Fin.by (fun tt_ kk_ => XS.astore X114.here hx rfl (hb hby d_jdk_52_method_16_26) rfl rfl (l' := #[.val (.ref b), .val (.int 0), .val (.int 1), .val (.ref a101), .val (.int 0), .val (.ref t115)]) rfl (XS.aload X114.here hx rfl (hb hby d_jdk_52_method_16_28) rfl rfl (XS.iload X114.here hx rfl (hb hby d_jdk_52_method_16_30) rfl kk_))) ?_
    have O117 : Old Z n0 T114.heap := (O112.keep p114_0 all0)
    have z118 : n0 ≤ T114.heap.size := Nat.le_trans z113 p114_0.1
    obtain ⟨v119, _, ⟨T119, L119, k119, n119⟩, -, X119, ⟨Lc119, hQ119, l119, y119, z119⟩, st119⟩ := Jvm.LawKit.callS X114 hx (y := y_4) hown (mvT hZ (w_ hw 95 rfl)) (mvT hZ (w_ hw 96 rfl)) (mvT hZ (w_ hw 71 rfl)) (mvT hZ (w_ hw 97 rfl)) (by decide) (backOf (W := 0) (rm_uge l Z a0 hw [] t115 k116 (2 : Int32) ([(.int (((c0 >>> ((0 : Int32) &&& 31)).toInt8.toInt32).toInt8.toInt32)), (.int (((c0 >>> ((8 : Int32) &&& 31)).toInt8.toInt32).toInt8.toInt32))] : List Value) 0 (0 : Int32) (((c0 >>> ((0 : Int32) &&& 31)).toInt8.toInt32).toInt8.toInt32) (((c0 >>> ((8 : Int32) &&& 31)).toInt8.toInt32).toInt8.toInt32) T114.heap n0 z118 rfl (by decide) (by decide) rfl rfl p114_2 S6 S7 S8 O117) hZ (w_ hw 97 rfl) (w_ hw 71 rfl) (by decide) (by decide)) (g := (mkF m 32 #[.val (.ref b), .val (.int 0), .val (.int 1), .val (.ref a101), .val (.int 0), .val (.ref t115)] [(.int 0), (.ref t115)])) rfl (by rw [hml]; rfl) (argsL := [(.ref t115), (.int 0)]) (rest := []) (lenOf pd_71 rfl) rfl (by show 2 * 0 + _ ≤ _; exact Nat.le_of_eq rfl) (hb hby d_jdk_52_method_16_32) (fun _ _ => ⟨rfl, rfl, (by decide : 2 + 0 ≤ _), (by decide : 3 + 0 ≤ _)⟩)
    dsimp only [Pt.U, Pt.locs, Pt.cells, Pt.slots] at X119 l119 y119 z119 st119 hQ119
    subst l119 y119 z119
    obtain ⟨rfl, Nq119, e119_⟩ := hQ119
    have N119_ := Fr.app N114_ Nq119
    refine Fin.by (fun tt_ kk_ => st119 tt_ kk_) ?_
    have e119 := e119_
    refine Fin.by (fun tt_ kk_ => XS.sipush X119.here hx rfl (hb hby d_jdk_52_method_16_35) kk_) ?_
    show Fin _ _ _ _ _ _ _ (T119.setTop (mkF m 38 #[.val (.ref b), .val (.int 0), .val (.int 1), .val (.ref a101), .val (.int 0), .val (.ref t115)] [(.int 255), (.int (nar .char (StrChars.pairCh (((c0 >>> (0 &&& 31)).toInt8.toInt32).toInt8.toInt32) (((c0 >>> (8 &&& 31)).toInt8.toInt32).toInt8.toInt32))))]))
    refine Fin.by (fun tt_ kk_ => XS.icmpYes X119.here hx rfl (pc0 := 38) (pc' := 54) rfl (hb hby d_jdk_52_method_16_38) rfl (tlt (by rw [own_pw hb_0]; exact hx_0 : (255 : Int32) < (nar .char (StrChars.pairCh (((c0 >>> ((0 : Int32) &&& 31)).toInt8.toInt32).toInt8.toInt32) (((c0 >>> ((8 : Int32) &&& 31)).toInt8.toInt32).toInt8.toInt32))))).2.2.1 (by decide) (by decide) kk_) ?_
    refine Fin.by (fun tt_ kk_ => XS.aload X119.here hx rfl (hb hby d_jdk_52_method_16_54) rfl rfl kk_) ?_
    have kp120 : Keep h0 h101 [] := (Keep.refl h0 []).ext E101
    have kp121 : Keep h0 T106.heap [] := kp120.trans p106_0 (allS (Or.inr (Nat.le_trans (Nat.le_refl _) (Nat.le_of_eq g101.symm))) all0)
    have kp122 : Keep h0 T114.heap [] := kp121.trans p114_0 all0
    show Fin _ _ _ _ _ _ _ (T119.setTop (mkF m 56 #[.val (.ref b), .val (.int 0), .val (.int 1), .val (.ref a101), .val (.int 0), .val (.ref t115)] [(.ref t115)]))
    exact Fin.ret (v := some (.ref t115)) X119 (fun h => by rw [Bd.returns] at h; cases h) Bd.notSynchronized (by rw [e119]; exact ⟨t115, k116, (1 : Int32), (2 : Int32), [(.int (((c0 >>> ((0 : Int32) &&& 31)).toInt8.toInt32).toInt8.toInt32)), (.int (((c0 >>> ((8 : Int32) &&& 31)).toInt8.toInt32).toInt8.toInt32))], rfl, N119_, kp122, (Nat.le_trans (Nat.le_trans E101.1 p106_0.1) p114_1), p114_2, (Or.inr ⟨rfl, rfl, by simp only [StrChars.Road.wideBytes, own_raw_lo, own_raw_hi], ⟨c0, by simp, hx_0⟩⟩)⟩) (by decide) (by decide) (fun fs hr => retA X119 hx Bd.returns rfl rfl (hb hby d_jdk_52_method_16_56) hr)
theorem d_jdk_52_method_15_0 : decode jdk_52_method_15_code 0 = .ok (.iload_n 1, 1) := by decide +kernel
theorem d_jdk_52_method_15_1 : decode jdk_52_method_15_code 1 = .ok (.aload_n 0, 1) := by decide +kernel
theorem d_jdk_52_method_15_2 : decode jdk_52_method_15_code 2 = .ok (.arraylength, 1) := by decide +kernel
theorem d_jdk_52_method_15_3 : decode jdk_52_method_15_code 3 = .ok (.isub, 1) := by decide +kernel
theorem d_jdk_52_method_15_4 : decode jdk_52_method_15_code 4 = .ok (.bipush 31, 2) := by decide +kernel
theorem d_jdk_52_method_15_6 : decode jdk_52_method_15_code 6 = .ok (.iushr, 1) := by decide +kernel
theorem d_jdk_52_method_15_7 : decode jdk_52_method_15_code 7 = .ok (.i2b, 1) := by decide +kernel
theorem d_jdk_52_method_15_8 : decode jdk_52_method_15_code 8 = .ok (.ireturn, 1) := by decide +kernel
def Q_cod_1_0 (Z : State) (t : Addr) (kt : ClassId) (vs : List Value) (h0 : Heap) (n0 : Nat) (vv_ : Option Value) (hh_ : Heap) (LL_ : List Loc) : Prop := vv_ = some (.int (nar .byte (0 : Int32))) ∧ Fr n0 LL_ ∧ hh_ = h0
set_option maxRecDepth 65536 in
set_option maxHeartbeats 40000000 in
theorem rm_cod_1_0 (l : Launch) (Z : State) (a0 : Array Value) (hw : ∀ d ∈ tables_1, d.before a0 Z = true) (ws : List Jvm.Cond) (t : Addr) (kt : ClassId) (vs : List Value) (h0 : Heap) (n0 : Nat) (Z0 : n0 ≤ h0.size) (A0 : Arv Z h0 t kt .byte (1 : Int32) vs (.int (0 : Int32))) :
    MetFree l (⟨"java/lang/StringUTF16", "coderFromArrayLen", "([BI)B"⟩ : MethodName) (head1 (Jvm.Cond.code (⟨"java/lang/StringUTF16", "coderFromArrayLen", "([BI)B"⟩ : MethodName) jdk_52_method_15_code 2 (some .byte) :: ws) ({ frames := 0, cells := 0, slots := 0, locals := 0 } : Room)) (fun aa_ U => aa_ = #[(.ref t), (.int (1 : Int32))] ∧ Z.Warmed39 U.vm ∧ U.heap = h0) (fun _ _ _ _ _ => True) (fun _ U o U' => ∃ vv_ LL_, o = .returned vv_ ∧ Q_cod_1_0 Z t kt vs h0 n0 vv_ U'.heap LL_ ∧ FrameEnd U o U' LL_ 0 0) := by
  refine MetFree.of_bodySF (plainFor_of_name pn_java_lang_StringUTF16) hisR ?_
  intro p e s m args below meth c s₁ Bd hml0 hP hK
  obtain ⟨rfl, hZ, hh⟩ := hP
  have hx := Bd.exec
  have hby := Bd.bytes
  have hml : c.maxLocals = 2 := hml0
  have hown : s.vm.findClass "java/lang/StringUTF16" = some m.cls := findClass_of_methodNamed Bd.named
  have hnm := (name_of_methodNamed Bd.named Bd.method).1
  have X0 : Stand p l e ({ frames := 0, cells := 0, slots := 0, locals := 0 } : Room) s m #[(.ref t), (.int (1 : Int32))] below meth c s₁ [] 0 0 := Stand.of_body Bd
  have e0 : s₁.heap = h0 := by rw [← hh, Bd.state]; rfl
  have N0 := Fr.nil n0
  have ef : entryFrame m #[(.ref t), (.int (1 : Int32))] 2 = mkF m 0 #[.val (.ref t), .val (.int (1 : Int32))] [] := by first | (simp [entryFrame, mkF, argsToLocals, Value.category]; done) | rfl
  refine Fin.start (Q := Q_cod_1_0 Z t kt vs h0 n0) ef ?_
  refine Fin.by (fun tt_ kk_ => XS.iloadN X0.here hx rfl (hb hby d_jdk_52_method_15_0) rfl (XS.aloadN X0.here hx rfl (hb hby d_jdk_52_method_15_1) rfl rfl kk_)) ?_
  obtain ⟨cl101, Ar101, q101, S101, N101, H101, G101⟩ := id A0
  refine Fin.by (fun tt_ kk_ => X0.arraylength hx (by rw [e0]; exact Ar101.1) (State.isArrayOf_alike hZ.alike Ar101.2.1) (g := (mkF m 2 #[.val (.ref t), .val (.int 1)] [(.ref t), (.int 1)])) rfl rfl (hb hby d_jdk_52_method_15_2) _ kk_) ?_
  rw [len_of S101 N101]
  refine Fin.by (fun tt_ kk_ => XS.isub X0.here hx rfl (hb hby d_jdk_52_method_15_3) rfl (XS.bipush X0.here hx rfl (hb hby d_jdk_52_method_15_4) (XS.iushr X0.here hx rfl (hb hby d_jdk_52_method_15_6) rfl (XS.i2b X0.here hx rfl (hb hby d_jdk_52_method_15_7) rfl kk_)))) ?_
  show Fin _ _ _ _ _ _ _ (s₁.setTop (mkF m 8 #[.val (.ref t), .val (.int 1)] [(.int 0)]))
  exact Fin.ret (v := some (.int (nar .byte (0 : Int32)))) X0 (fun h => by rw [Bd.returns] at h; cases h) Bd.notSynchronized (by rw [e0]; exact ⟨rfl, N0, rfl⟩) (by decide) (by decide) (fun fs hr => retN X0 hx (t := .byte) Bd.returns (by simp) (hb hby d_jdk_52_method_15_8) hr)
def Q_cod_1_1 (Z : State) (t : Addr) (kt : ClassId) (vs : List Value) (h0 : Heap) (n0 : Nat) (vv_ : Option Value) (hh_ : Heap) (LL_ : List Loc) : Prop := vv_ = some (.int (nar .byte (1 : Int32))) ∧ Fr n0 LL_ ∧ hh_ = h0
set_option maxRecDepth 65536 in
set_option maxHeartbeats 40000000 in
theorem rm_cod_1_1 (l : Launch) (Z : State) (a0 : Array Value) (hw : ∀ d ∈ tables_1, d.before a0 Z = true) (ws : List Jvm.Cond) (t : Addr) (kt : ClassId) (vs : List Value) (h0 : Heap) (n0 : Nat) (Z0 : n0 ≤ h0.size) (A0 : Arv Z h0 t kt .byte (2 : Int32) vs (.int (0 : Int32))) :
    MetFree l (⟨"java/lang/StringUTF16", "coderFromArrayLen", "([BI)B"⟩ : MethodName) (head1 (Jvm.Cond.code (⟨"java/lang/StringUTF16", "coderFromArrayLen", "([BI)B"⟩ : MethodName) jdk_52_method_15_code 2 (some .byte) :: ws) ({ frames := 0, cells := 0, slots := 0, locals := 0 } : Room)) (fun aa_ U => aa_ = #[(.ref t), (.int (1 : Int32))] ∧ Z.Warmed39 U.vm ∧ U.heap = h0) (fun _ _ _ _ _ => True) (fun _ U o U' => ∃ vv_ LL_, o = .returned vv_ ∧ Q_cod_1_1 Z t kt vs h0 n0 vv_ U'.heap LL_ ∧ FrameEnd U o U' LL_ 0 0) := by
  refine MetFree.of_bodySF (plainFor_of_name pn_java_lang_StringUTF16) hisR ?_
  intro p e s m args below meth c s₁ Bd hml0 hP hK
  obtain ⟨rfl, hZ, hh⟩ := hP
  have hx := Bd.exec
  have hby := Bd.bytes
  have hml : c.maxLocals = 2 := hml0
  have hown : s.vm.findClass "java/lang/StringUTF16" = some m.cls := findClass_of_methodNamed Bd.named
  have hnm := (name_of_methodNamed Bd.named Bd.method).1
  have X0 : Stand p l e ({ frames := 0, cells := 0, slots := 0, locals := 0 } : Room) s m #[(.ref t), (.int (1 : Int32))] below meth c s₁ [] 0 0 := Stand.of_body Bd
  have e0 : s₁.heap = h0 := by rw [← hh, Bd.state]; rfl
  have N0 := Fr.nil n0
  have ef : entryFrame m #[(.ref t), (.int (1 : Int32))] 2 = mkF m 0 #[.val (.ref t), .val (.int (1 : Int32))] [] := by first | (simp [entryFrame, mkF, argsToLocals, Value.category]; done) | rfl
  refine Fin.start (Q := Q_cod_1_1 Z t kt vs h0 n0) ef ?_
  refine Fin.by (fun tt_ kk_ => XS.iloadN X0.here hx rfl (hb hby d_jdk_52_method_15_0) rfl (XS.aloadN X0.here hx rfl (hb hby d_jdk_52_method_15_1) rfl rfl kk_)) ?_
  obtain ⟨cl101, Ar101, q101, S101, N101, H101, G101⟩ := id A0
  refine Fin.by (fun tt_ kk_ => X0.arraylength hx (by rw [e0]; exact Ar101.1) (State.isArrayOf_alike hZ.alike Ar101.2.1) (g := (mkF m 2 #[.val (.ref t), .val (.int 1)] [(.ref t), (.int 1)])) rfl rfl (hb hby d_jdk_52_method_15_2) _ kk_) ?_
  rw [len_of S101 N101]
  refine Fin.by (fun tt_ kk_ => XS.isub X0.here hx rfl (hb hby d_jdk_52_method_15_3) rfl (XS.bipush X0.here hx rfl (hb hby d_jdk_52_method_15_4) (XS.iushr X0.here hx rfl (hb hby d_jdk_52_method_15_6) rfl (XS.i2b X0.here hx rfl (hb hby d_jdk_52_method_15_7) rfl kk_)))) ?_
  show Fin _ _ _ _ _ _ _ (s₁.setTop (mkF m 8 #[.val (.ref t), .val (.int 1)] [(.int 1)]))
  exact Fin.ret (v := some (.int (nar .byte (1 : Int32)))) X0 (fun h => by rw [Bd.returns] at h; cases h) Bd.notSynchronized (by rw [e0]; exact ⟨rfl, N0, rfl⟩) (by decide) (by decide) (fun fs hr => retN X0 hx (t := .byte) Bd.returns (by simp) (hb hby d_jdk_52_method_15_8) hr)
abbrev y_13 : MethodName := (⟨"java/lang/StringUTF16", "compress", "([CII)[B"⟩ : MethodName)
abbrev y_14 : MethodName := (⟨"java/lang/StringUTF16", "coderFromArrayLen", "([BI)B"⟩ : MethodName)
theorem d_jdk_42_method_149_0 : decode jdk_42_method_149_code 0 = .ok (.aload_n 0, 1) := by decide +kernel
theorem d_jdk_42_method_149_1 : decode jdk_42_method_149_code 1 = .ok (.invokespecial 1, 3) := by decide +kernel
theorem d_jdk_42_method_149_4 : decode jdk_42_method_149_code 4 = .ok (.iload_n 3, 1) := by decide +kernel
theorem d_jdk_42_method_149_5 : decode jdk_42_method_149_code 5 = .ok (.ifCond .ne 22, 3) := by decide +kernel
theorem d_jdk_42_method_149_27 : decode jdk_42_method_149_code 27 = .ok (.getstatic 38, 3) := by decide +kernel
theorem d_jdk_42_method_149_30 : decode jdk_42_method_149_code 30 = .ok (.ifCond .eq 28, 3) := by decide +kernel
theorem d_jdk_42_method_149_33 : decode jdk_42_method_149_code 33 = .ok (.aload_n 1, 1) := by decide +kernel
theorem d_jdk_42_method_149_34 : decode jdk_42_method_149_code 34 = .ok (.iload_n 2, 1) := by decide +kernel
theorem d_jdk_42_method_149_35 : decode jdk_42_method_149_code 35 = .ok (.iload_n 3, 1) := by decide +kernel
theorem d_jdk_42_method_149_36 : decode jdk_42_method_149_code 36 = .ok (.invokestatic 177, 3) := by decide +kernel
theorem d_jdk_42_method_149_39 : decode jdk_42_method_149_code 39 = .ok (.astore 5, 2) := by decide +kernel
theorem d_jdk_42_method_149_41 : decode jdk_42_method_149_code 41 = .ok (.aload_n 0, 1) := by decide +kernel
theorem d_jdk_42_method_149_42 : decode jdk_42_method_149_code 42 = .ok (.aload 5, 2) := by decide +kernel
theorem d_jdk_42_method_149_44 : decode jdk_42_method_149_code 44 = .ok (.iload_n 3, 1) := by decide +kernel
theorem pd_230 : parseMethodDescriptor "([BI)B" = some ⟨[(.array .byte), .int], some .byte⟩ := by decide +kernel
theorem d_jdk_42_method_149_45 : decode jdk_42_method_149_code 45 = .ok (.invokestatic 47, 3) := by decide +kernel
theorem d_jdk_42_method_149_48 : decode jdk_42_method_149_code 48 = .ok (.putfield 15, 3) := by decide +kernel
theorem d_jdk_42_method_149_51 : decode jdk_42_method_149_code 51 = .ok (.aload_n 0, 1) := by decide +kernel
theorem d_jdk_42_method_149_52 : decode jdk_42_method_149_code 52 = .ok (.aload 5, 2) := by decide +kernel
theorem d_jdk_42_method_149_54 : decode jdk_42_method_149_code 54 = .ok (.putfield 9, 3) := by decide +kernel
theorem d_jdk_42_method_149_57 : decode jdk_42_method_149_code 57 = .ok (.return_, 1) := by decide +kernel
def Q_n4_1 (Z : State) (a : Addr) (b : Addr) (kb : ClassId) (c0 : Int32) (G1 : Int32) (h0 : Heap) (n0 : Nat) (vv_ : Option Value) (hh_ : Heap) (LL_ : List Loc) : Prop := ∃ (t : Addr), ∃ (k : ClassId), ∃ (cd : Int32), ∃ (N2 : Int32), ∃ (vs : List Value), vv_ = none ∧ Fr n0 LL_ ∧ Keep h0 hh_ [a] ∧ h0.size ≤ t ∧ Exa Z hh_ a "java/lang/String" ∧ Fld Z hh_ a "java/lang/String" "value" "[B" (.ref t) ∧ Fld Z hh_ a "java/lang/String" "coder" "B" (.int cd) ∧ Arv Z hh_ t k .byte N2 vs (.int (0 : Int32)) ∧ (StrChars.Road.CodA ([c0] : List Int32) cd N2 vs)
set_option maxRecDepth 65536 in
set_option maxHeartbeats 40000000 in
theorem rm_n4_1 (l : Launch) (Z : State) (a0 : Array Value) (hw : ∀ d ∈ tables_1, d.before a0 Z = true) (ws : List Jvm.Cond) (a : Addr) (b : Addr) (kb : ClassId) (c0 : Int32) (G1 : Int32) (h0 : Heap) (n0 : Nat) (Z0 : n0 ≤ h0.size) (E0 : Exa Z h0 a "java/lang/String") (F0 : Fld Z h0 a "java/lang/String" "value" "[B" .null) (F1 : Fld Z h0 a "java/lang/String" "coder" "B" (.int (0 : Int32))) (ga : n0 ≤ a) (Ab : Arv Z h0 b kb .char (1 : Int32) [(.int c0)] (.int (0 : Int32))) (hb_0 : ¬ c0 < 0 ∧ ¬ (65535 : Int32) < c0) (S1 : Sta Z Z.heap "java/lang/String" "COMPACT_STRINGS" "Z" (.int G1)) (P1 : ¬ G1 = 0) (S6 : Sta Z Z.heap "java/lang/StringUTF16" "$assertionsDisabled" "Z" (.int (1 : Int32))) (S7 : Sta Z Z.heap "java/lang/StringUTF16" "HI_BYTE_SHIFT" "I" (.int (0 : Int32))) (S8 : Sta Z Z.heap "java/lang/StringUTF16" "LO_BYTE_SHIFT" "I" (.int (8 : Int32))) (OL : Old Z n0 h0) :
    MetFree l (⟨"java/lang/String", "<init>", "([CIILjava/lang/Void;)V"⟩ : MethodName) (head1 (Jvm.Cond.code (⟨"java/lang/String", "<init>", "([CIILjava/lang/Void;)V"⟩ : MethodName) jdk_42_method_149_code 6 none :: ws) ({ frames := 4, cells := 2, slots := 3, locals := 57 } : Room)) (fun aa_ U => aa_ = #[(.ref a), (.ref b), (.int (0 : Int32)), (.int (1 : Int32)), .null] ∧ Z.Warmed39 U.vm ∧ U.heap = h0) (fun _ _ _ _ _ => True) (fun _ U o U' => ∃ vv_ LL_, o = .returned vv_ ∧ Q_n4_1 Z a b kb c0 G1 h0 n0 vv_ U'.heap LL_ ∧ FrameEnd U o U' LL_ 2 3) := by
  refine MetFree.of_bodySF (plainFor_of_name pn_java_lang_String) hisR ?_
  intro p e s m args below meth c s₁ Bd hml0 hP hK
  obtain ⟨rfl, hZ, hh⟩ := hP
  have hx := Bd.exec
  have hby := Bd.bytes
  have hml : c.maxLocals = 6 := hml0
  have hown : s.vm.findClass "java/lang/String" = some m.cls := findClass_of_methodNamed Bd.named
  have hnm := (name_of_methodNamed Bd.named Bd.method).1
  have X0 : Stand p l e ({ frames := 4, cells := 2, slots := 3, locals := 57 } : Room) s m #[(.ref a), (.ref b), (.int (0 : Int32)), (.int (1 : Int32)), .null] below meth c s₁ [] 0 0 := Stand.of_body Bd
  have e0 : s₁.heap = h0 := by rw [← hh, Bd.state]; rfl
  have N0 := Fr.nil n0
  have ef : entryFrame m #[(.ref a), (.ref b), (.int (0 : Int32)), (.int (1 : Int32)), .null] 6 = mkF m 0 #[.val (.ref a), .val (.ref b), .val (.int (0 : Int32)), .val (.int (1 : Int32)), .val .null, .unset] [] := by first | (simp [entryFrame, mkF, argsToLocals, Value.category]; done) | rfl
  refine Fin.start (Q := Q_n4_1 Z a b kb c0 G1 h0 n0) ef ?_
  refine Fin.by (fun tt_ kk_ => XS.aloadN X0.here hx rfl (hb hby d_jdk_42_method_149_0) rfl rfl kk_) ?_
  obtain ⟨T101, X101, e101, st101⟩ := initO X0 hx hZ hown (w_ hw 17 rfl) (w_ hw 18 rfl) (w_ hw 19 rfl) e0 (g := (mkF m 1 #[.val (.ref a), .val (.ref b), .val (.int 0), .val (.int 1), .val .null, .unset] [(.ref a)])) rfl (by rw [hml]; rfl) rfl (hb hby d_jdk_42_method_149_1) (by decide) (W := 0) (by show 2 * 0 + _ ≤ _; exact Nat.le_of_eq rfl) (by decide)
  refine Fin.by (fun tt_ kk_ => st101 tt_ kk_) ?_
  refine Fin.by (fun tt_ kk_ => XS.iloadN X101.here hx rfl (hb hby d_jdk_42_method_149_4) rfl kk_) ?_
  show Fin _ _ _ _ _ _ _ (T101.setTop (mkF m 5 #[.val (.ref a), .val (.ref b), .val (.int 0), .val (.int 1), .val .null, .unset] [(.int 1)]))
  refine Fin.by (fun tt_ kk_ => XS.ifYes X101.here hx rfl (pc0 := 5) (pc' := 27) rfl (hb hby d_jdk_42_method_149_5) rfl ((if0 _ _).trans (feq (by decide : ¬ (1 : Int32) = (0 : Int32))).2) (by decide) (by decide) kk_) ?_
  obtain ⟨T102, X102, e102, st102⟩ := getS X101 hx hZ (host := "") hown (w_ hw 68 rfl) Via.refl e101 (S1.ext OL.2) (g := (mkF m 27 #[.val (.ref a), .val (.ref b), .val (.int 0), .val (.int 1), .val .null, .unset] [])) rfl (hb hby d_jdk_42_method_149_27)
  refine Fin.by (fun tt_ kk_ => st102 tt_ kk_) ?_
  show Fin _ _ _ _ _ _ _ (T102.setTop (mkF m 30 #[.val (.ref a), .val (.ref b), .val (.int 0), .val (.int 1), .val .null, .unset] [(.int G1)]))
  refine Fin.by (fun tt_ kk_ => XS.ifNo X102.here hx rfl (hb hby d_jdk_42_method_149_30) rfl ((if0 _ _).trans (feq (P1 : ¬ G1 = (0 : Int32))).1) kk_) ?_
  refine Fin.by (fun tt_ kk_ => XS.aloadN X102.here hx rfl (hb hby d_jdk_42_method_149_33) rfl rfl (XS.iloadN X102.here hx rfl (hb hby d_jdk_42_method_149_34) rfl (XS.iloadN X102.here hx rfl (hb hby d_jdk_42_method_149_35) rfl kk_))) ?_
  obtain ⟨v103, _, ⟨T103, L103, k103, n103⟩, -, X103, ⟨Lc103, hQ103, l103, y103, z103⟩, st103⟩ := Jvm.LawKit.callS X102 hx (y := y_13) hown (mvT hZ (w_ hw 69 rfl)) (mvT hZ (w_ hw 70 rfl)) (mvT hZ (w_ hw 71 rfl)) (mvT hZ (w_ hw 72 rfl)) (by decide) (backOf (W := 0) (rm_c3_1 l Z a0 hw [] b kb c0 h0 n0 Z0 Ab hb_0 S6 S7 S8 OL) hZ (w_ hw 72 rfl) (w_ hw 71 rfl) (by decide) (by decide)) (g := (mkF m 36 #[.val (.ref a), .val (.ref b), .val (.int 0), .val (.int 1), .val .null, .unset] [(.int 1), (.int 0), (.ref b)])) rfl (by rw [hml]; rfl) (argsL := [(.ref b), (.int 0), (.int 1)]) (rest := []) (lenOf pd_198 rfl) rfl (by show 2 * 0 + _ ≤ _; exact Nat.le_of_eq rfl) (hb hby d_jdk_42_method_149_36) (fun _ _ => ⟨rfl, e102, (by decide : 0 + 2 ≤ _), (by decide : 0 + 3 ≤ _)⟩)
  dsimp only [Pt.U, Pt.locs, Pt.cells, Pt.slots] at X103 l103 y103 z103 st103 hQ103
  subst l103 y103 z103
  obtain ⟨t104, k105, cd106, N107, vs108, rfl, Nq103, p103_0, p103_1, p103_2, p103_3⟩ := hQ103
  have N103_ := Fr.app N0 Nq103
  refine Fin.by (fun tt_ kk_ => st103 tt_ kk_) ?_
  rcases id p103_3 with ⟨hcd, hN2, hvs, -⟩ | ⟨hcd, hN2, hvs, -⟩
  · have hN2' : N107 = (1 : Int32) := hN2
    clear hN2
    subst hcd
    subst hN2'
    refine Fin.by (fun tt_ kk_ => XS.astore X103.here hx rfl (hb hby d_jdk_42_method_149_39) rfl rfl (l' := #[.val (.ref a), .val (.ref b), .val (.int 0), .val (.int 1), .val .null, .val (.ref t104)]) rfl (XS.aloadN X103.here hx rfl (hb hby d_jdk_42_method_149_41) rfl rfl (XS.aload X103.here hx rfl (hb hby d_jdk_42_method_149_42) rfl rfl (XS.iloadN X103.here hx rfl (hb hby d_jdk_42_method_149_44) rfl kk_)))) ?_
    have z109 : n0 ≤ T103.heap.size := Nat.le_trans Z0 p103_0.1
    obtain ⟨v110, _, ⟨T110, L110, k110, n110⟩, -, X110, ⟨Lc110, hQ110, l110, y110, z110⟩, st110⟩ := Jvm.LawKit.callS X103 hx (y := y_14) hown (mvT hZ (w_ hw 76 rfl)) (mvT hZ (w_ hw 77 rfl)) (mvT hZ (w_ hw 71 rfl)) (mvT hZ (w_ hw 78 rfl)) (by decide) (backOf (W := 1) (rm_cod_1_0 l Z a0 hw [] t104 k105 (vs108 : List Value) T103.heap n0 z109 p103_2) hZ (w_ hw 78 rfl) (w_ hw 71 rfl) (by decide) (by decide)) (g := (mkF m 45 #[.val (.ref a), .val (.ref b), .val (.int 0), .val (.int 1), .val .null, .val (.ref t104)] [(.int 1), (.ref t104), (.ref a)])) rfl (by rw [hml]; rfl) (argsL := [(.ref t104), (.int 1)]) (rest := [(.ref a)]) (lenOf pd_230 rfl) rfl (by show 2 * 0 + _ ≤ _; exact Nat.le_of_eq rfl) (hb hby d_jdk_42_method_149_45) (fun _ _ => ⟨rfl, rfl, (by decide : 2 + 0 ≤ _), (by decide : 3 + 0 ≤ _)⟩)
    dsimp only [Pt.U, Pt.locs, Pt.cells, Pt.slots] at X110 l110 y110 z110 st110 hQ110
    subst l110 y110 z110
    obtain ⟨rfl, Nq110, e110_⟩ := hQ110
    have N110_ := Fr.app N103_ Nq110
    refine Fin.by (fun tt_ kk_ => st110 tt_ kk_) ?_
    have e110 := e110_
    have F111 : Fld Z T103.heap a "java/lang/String" "coder" "B" (.int (0 : Int32)) := (F1.keep p103_0 nin0)
    have E112 : Exa Z T103.heap a "java/lang/String" := (E0.keep p103_0)
    obtain ⟨T113, h113, X113, e113, W113, st113⟩ := putFN X110 hx hZ hown (w_ hw 27 rfl) Via.refl e110 F111 E112 (Or.inr ⟨(w_ hw 23 rfl), rfl, hnm⟩) (w_ hw 7 rfl) (ty := .byte) (v' := .int (0 : Int32)) (by decide) rfl rfl (g := (mkF m 48 #[.val (.ref a), .val (.ref b), .val (.int 0), .val (.int 1), .val .null, .val (.ref t104)] [(.int (nar .byte 0)), (.ref a)])) rfl rfl (hb hby d_jdk_42_method_149_48)
    refine Fin.by (fun tt_ kk_ => st113 tt_ kk_) ?_
    have N113_ := Fr.snoc X113 N110_ ga
    refine Fin.by (fun tt_ kk_ => XS.aloadN X113.here hx rfl (hb hby d_jdk_42_method_149_51) rfl rfl (XS.aload X113.here hx rfl (hb hby d_jdk_42_method_149_52) rfl rfl kk_)) ?_
    have F114 : Fld Z h113 a "java/lang/String" "value" "[B" .null := ((F0.keep p103_0 nin0).other W113 (Or.inr (slot_ne (Or.inr (w_ hw 22 rfl)) (Or.inr (w_ hw 23 rfl)) (by decide) (t := (.array .byte)) (t' := .byte) (by decide) (by decide))))
    have E115 : Exa Z h113 a "java/lang/String" := (E112.wr W113)
    obtain ⟨T116, h116, X116, e116, W116, st116⟩ := putF X113 hx hZ hown (host := "") (Or.inl (w_ hw 26 rfl)) Via.refl e113 F114 E115 (Or.inr ⟨(w_ hw 22 rfl), rfl, hnm⟩) (w_ hw 7 rfl) (ty := (.array .byte)) (by decide) rfl rfl (g := (mkF m 54 #[.val (.ref a), .val (.ref b), .val (.int 0), .val (.int 1), .val .null, .val (.ref t104)] [(.ref t104), (.ref a)])) rfl rfl (hb hby d_jdk_42_method_149_54)
    refine Fin.by (fun tt_ kk_ => st116 tt_ kk_) ?_
    have N116_ := Fr.snoc X116 N113_ ga
    have kp117 : Keep h0 T103.heap [a] := (Keep.refl h0 [a]).trans p103_0 all0
    have kp118 : Keep h0 h113 [a] := kp117.wr W113 (Or.inl (List.mem_of_getElem? (i := 0) rfl))
    have kp119 : Keep h0 h116 [a] := kp118.wr W116 (Or.inl (List.mem_of_getElem? (i := 0) rfl))
    have E120 : Exa Z h116 a "java/lang/String" := (E115.wr W116)
    have F121 : Fld Z h116 a "java/lang/String" "coder" "B" (.int (0 : Int32)) := ((F111.same W113).other W116 (Or.inr (slot_ne (Or.inr (w_ hw 23 rfl)) (Or.inr (w_ hw 22 rfl)) (by decide) (t := .byte) (t' := (.array .byte)) (by decide) (by decide))))
    have ne122 : a ≠ t104 := Nat.ne_of_lt (Nat.lt_of_lt_of_le E0.lt p103_1)
    have A123 : Arv Z h116 t104 k105 .byte (1 : Int32) vs108 (.int (0 : Int32)) := ((p103_2.other W113 (Ne.symm ne122)).other W116 (Ne.symm ne122))
    show Fin _ _ _ _ _ _ _ (T116.setTop (mkF m 57 #[.val (.ref a), .val (.ref b), .val (.int 0), .val (.int 1), .val .null, .val (.ref t104)] []))
    exact Fin.ret (v := none) X116 (fun _ => rfl) Bd.notSynchronized (by rw [e116]; exact ⟨t104, k105, (0 : Int32), (1 : Int32), vs108, rfl, N116_, kp119, (Nat.le_trans (Nat.le_refl _) p103_1), E120, (F114.same W116), F121, A123, p103_3⟩) (by decide) (by decide) (fun fs hr => X116.returnOut hx Bd.returns (hb hby d_jdk_42_method_149_57) hr)
  · have hN2' : N107 = (2 : Int32) := hN2
    clear hN2
    subst hcd
    subst hN2'
    refine Fin.by (fun tt_ kk_ => XS.astore X103.here hx rfl (hb hby d_jdk_42_method_149_39) rfl rfl (l' := #[.val (.ref a), .val (.ref b), .val (.int 0), .val (.int 1), .val .null, .val (.ref t104)]) rfl (XS.aloadN X103.here hx rfl (hb hby d_jdk_42_method_149_41) rfl rfl (XS.aload X103.here hx rfl (hb hby d_jdk_42_method_149_42) rfl rfl (XS.iloadN X103.here hx rfl (hb hby d_jdk_42_method_149_44) rfl kk_)))) ?_
    have z124 : n0 ≤ T103.heap.size := Nat.le_trans Z0 p103_0.1
    obtain ⟨v125, _, ⟨T125, L125, k125, n125⟩, -, X125, ⟨Lc125, hQ125, l125, y125, z125⟩, st125⟩ := Jvm.LawKit.callS X103 hx (y := y_14) hown (mvT hZ (w_ hw 76 rfl)) (mvT hZ (w_ hw 77 rfl)) (mvT hZ (w_ hw 71 rfl)) (mvT hZ (w_ hw 78 rfl)) (by decide) (backOf (W := 1) (rm_cod_1_1 l Z a0 hw [] t104 k105 (vs108 : List Value) T103.heap n0 z124 p103_2) hZ (w_ hw 78 rfl) (w_ hw 71 rfl) (by decide) (by decide)) (g := (mkF m 45 #[.val (.ref a), .val (.ref b), .val (.int 0), .val (.int 1), .val .null, .val (.ref t104)] [(.int 1), (.ref t104), (.ref a)])) rfl (by rw [hml]; rfl) (argsL := [(.ref t104), (.int 1)]) (rest := [(.ref a)]) (lenOf pd_230 rfl) rfl (by show 2 * 0 + _ ≤ _; exact Nat.le_of_eq rfl) (hb hby d_jdk_42_method_149_45) (fun _ _ => ⟨rfl, rfl, (by decide : 2 + 0 ≤ _), (by decide : 3 + 0 ≤ _)⟩)
    dsimp only [Pt.U, Pt.locs, Pt.cells, Pt.slots] at X125 l125 y125 z125 st125 hQ125
    subst l125 y125 z125
    obtain ⟨rfl, Nq125, e125_⟩ := hQ125
    have N125_ := Fr.app N103_ Nq125
    refine Fin.by (fun tt_ kk_ => st125 tt_ kk_) ?_
    have e125 := e125_
    have F126 : Fld Z T103.heap a "java/lang/String" "coder" "B" (.int (0 : Int32)) := (F1.keep p103_0 nin0)
    have E127 : Exa Z T103.heap a "java/lang/String" := (E0.keep p103_0)
    obtain ⟨T128, h128, X128, e128, W128, st128⟩ := putFN X125 hx hZ hown (w_ hw 27 rfl) Via.refl e125 F126 E127 (Or.inr ⟨(w_ hw 23 rfl), rfl, hnm⟩) (w_ hw 7 rfl) (ty := .byte) (v' := .int (1 : Int32)) (by decide) rfl rfl (g := (mkF m 48 #[.val (.ref a), .val (.ref b), .val (.int 0), .val (.int 1), .val .null, .val (.ref t104)] [(.int (nar .byte 1)), (.ref a)])) rfl rfl (hb hby d_jdk_42_method_149_48)
    refine Fin.by (fun tt_ kk_ => st128 tt_ kk_) ?_
    have N128_ := Fr.snoc X128 N125_ ga
    refine Fin.by (fun tt_ kk_ => XS.aloadN X128.here hx rfl (hb hby d_jdk_42_method_149_51) rfl rfl (XS.aload X128.here hx rfl (hb hby d_jdk_42_method_149_52) rfl rfl kk_)) ?_
    have F129 : Fld Z h128 a "java/lang/String" "value" "[B" .null := ((F0.keep p103_0 nin0).other W128 (Or.inr (slot_ne (Or.inr (w_ hw 22 rfl)) (Or.inr (w_ hw 23 rfl)) (by decide) (t := (.array .byte)) (t' := .byte) (by decide) (by decide))))
    have E130 : Exa Z h128 a "java/lang/String" := (E127.wr W128)
    obtain ⟨T131, h131, X131, e131, W131, st131⟩ := putF X128 hx hZ hown (host := "") (Or.inl (w_ hw 26 rfl)) Via.refl e128 F129 E130 (Or.inr ⟨(w_ hw 22 rfl), rfl, hnm⟩) (w_ hw 7 rfl) (ty := (.array .byte)) (by decide) rfl rfl (g := (mkF m 54 #[.val (.ref a), .val (.ref b), .val (.int 0), .val (.int 1), .val .null, .val (.ref t104)] [(.ref t104), (.ref a)])) rfl rfl (hb hby d_jdk_42_method_149_54)
    refine Fin.by (fun tt_ kk_ => st131 tt_ kk_) ?_
    have N131_ := Fr.snoc X131 N128_ ga
    have kp132 : Keep h0 T103.heap [a] := (Keep.refl h0 [a]).trans p103_0 all0
    have kp133 : Keep h0 h128 [a] := kp132.wr W128 (Or.inl (List.mem_of_getElem? (i := 0) rfl))
    have kp134 : Keep h0 h131 [a] := kp133.wr W131 (Or.inl (List.mem_of_getElem? (i := 0) rfl))
    have E135 : Exa Z h131 a "java/lang/String" := (E130.wr W131)
    have F136 : Fld Z h131 a "java/lang/String" "coder" "B" (.int (1 : Int32)) := ((F126.same W128).other W131 (Or.inr (slot_ne (Or.inr (w_ hw 23 rfl)) (Or.inr (w_ hw 22 rfl)) (by decide) (t := .byte) (t' := (.array .byte)) (by decide) (by decide))))
    have ne137 : a ≠ t104 := Nat.ne_of_lt (Nat.lt_of_lt_of_le E0.lt p103_1)
    have A138 : Arv Z h131 t104 k105 .byte (2 : Int32) vs108 (.int (0 : Int32)) := ((p103_2.other W128 (Ne.symm ne137)).other W131 (Ne.symm ne137))
    show Fin _ _ _ _ _ _ _ (T131.setTop (mkF m 57 #[.val (.ref a), .val (.ref b), .val (.int 0), .val (.int 1), .val .null, .val (.ref t104)] []))
    exact Fin.ret (v := none) X131 (fun _ => rfl) Bd.notSynchronized (by rw [e131]; exact ⟨t104, k105, (1 : Int32), (2 : Int32), vs108, rfl, N131_, kp134, (Nat.le_trans (Nat.le_refl _) p103_1), E135, (F129.same W131), F136, A138, p103_3⟩) (by decide) (by decide) (fun fs hr => X131.returnOut hx Bd.returns (hb hby d_jdk_42_method_149_57) hr)
abbrev y_15 : MethodName := (⟨"java/lang/String", "<init>", "([CIILjava/lang/Void;)V"⟩ : MethodName)
theorem d_jdk_42_method_3_0 : decode jdk_42_method_3_code 0 = .ok (.aload_n 0, 1) := by decide +kernel
theorem d_jdk_42_method_3_1 : decode jdk_42_method_3_code 1 = .ok (.aload_n 1, 1) := by decide +kernel
theorem d_jdk_42_method_3_2 : decode jdk_42_method_3_code 2 = .ok (.iconst 0, 1) := by decide +kernel
theorem d_jdk_42_method_3_3 : decode jdk_42_method_3_code 3 = .ok (.aload_n 1, 1) := by decide +kernel
theorem d_jdk_42_method_3_4 : decode jdk_42_method_3_code 4 = .ok (.arraylength, 1) := by decide +kernel
theorem d_jdk_42_method_3_5 : decode jdk_42_method_3_code 5 = .ok (.aconst_null, 1) := by decide +kernel
theorem pd_243 : parseMethodDescriptor "([CIILjava/lang/Void;)V" = some ⟨[(.array .char), .int, .int, (.object "java/lang/Void")], none⟩ := by decide +kernel
theorem d_jdk_42_method_3_6 : decode jdk_42_method_3_code 6 = .ok (.invokespecial 27, 3) := by decide +kernel
theorem d_jdk_42_method_3_9 : decode jdk_42_method_3_code 9 = .ok (.return_, 1) := by decide +kernel
def Q_n1_1 (Z : State) (a : Addr) (b : Addr) (kb : ClassId) (c0 : Int32) (G1 : Int32) (h0 : Heap) (n0 : Nat) (vv_ : Option Value) (hh_ : Heap) (LL_ : List Loc) : Prop := ∃ (t : Addr), ∃ (k : ClassId), ∃ (cd : Int32), ∃ (N2 : Int32), ∃ (vs : List Value), vv_ = none ∧ Fr n0 LL_ ∧ Keep h0 hh_ [a] ∧ h0.size ≤ t ∧ Exa Z hh_ a "java/lang/String" ∧ Fld Z hh_ a "java/lang/String" "value" "[B" (.ref t) ∧ Fld Z hh_ a "java/lang/String" "coder" "B" (.int cd) ∧ Arv Z hh_ t k .byte N2 vs (.int (0 : Int32)) ∧ (StrChars.Road.CodA ([c0] : List Int32) cd N2 vs)
set_option maxRecDepth 65536 in
set_option maxHeartbeats 40000000 in
theorem rm_n1_1 (l : Launch) (Z : State) (a0 : Array Value) (hw : ∀ d ∈ tables_1, d.before a0 Z = true) (ws : List Jvm.Cond) (a : Addr) (b : Addr) (kb : ClassId) (c0 : Int32) (G1 : Int32) (h0 : Heap) (n0 : Nat) (Z0 : n0 ≤ h0.size) (E0 : Exa Z h0 a "java/lang/String") (F0 : Fld Z h0 a "java/lang/String" "value" "[B" .null) (F1 : Fld Z h0 a "java/lang/String" "coder" "B" (.int (0 : Int32))) (ga : n0 ≤ a) (Ab : Arv Z h0 b kb .char (1 : Int32) [(.int c0)] (.int (0 : Int32))) (hb_0 : ¬ c0 < 0 ∧ ¬ (65535 : Int32) < c0) (S1 : Sta Z Z.heap "java/lang/String" "COMPACT_STRINGS" "Z" (.int G1)) (P1 : ¬ G1 = 0) (S6 : Sta Z Z.heap "java/lang/StringUTF16" "$assertionsDisabled" "Z" (.int (1 : Int32))) (S7 : Sta Z Z.heap "java/lang/StringUTF16" "HI_BYTE_SHIFT" "I" (.int (0 : Int32))) (S8 : Sta Z Z.heap "java/lang/StringUTF16" "LO_BYTE_SHIFT" "I" (.int (8 : Int32))) (OL : Old Z n0 h0) :
    MetFree l (⟨"java/lang/String", "<init>", "([C)V"⟩ : MethodName) (head1 (Jvm.Cond.code (⟨"java/lang/String", "<init>", "([C)V"⟩ : MethodName) jdk_42_method_3_code 2 none :: ws) ({ frames := 5, cells := 2, slots := 3, locals := 74 } : Room)) (fun aa_ U => aa_ = #[(.ref a), (.ref b)] ∧ Z.Warmed39 U.vm ∧ U.heap = h0) (fun _ _ _ _ _ => True) (fun _ U o U' => ∃ vv_ LL_, o = .returned vv_ ∧ Q_n1_1 Z a b kb c0 G1 h0 n0 vv_ U'.heap LL_ ∧ FrameEnd U o U' LL_ 2 3) := by
  refine MetFree.of_bodySF (plainFor_of_name pn_java_lang_String) hisR ?_
  intro p e s m args below meth c s₁ Bd hml0 hP hK
  obtain ⟨rfl, hZ, hh⟩ := hP
  have hx := Bd.exec
  have hby := Bd.bytes
  have hml : c.maxLocals = 2 := hml0
  have hown : s.vm.findClass "java/lang/String" = some m.cls := findClass_of_methodNamed Bd.named
  have hnm := (name_of_methodNamed Bd.named Bd.method).1
  have X0 : Stand p l e ({ frames := 5, cells := 2, slots := 3, locals := 74 } : Room) s m #[(.ref a), (.ref b)] below meth c s₁ [] 0 0 := Stand.of_body Bd
  have e0 : s₁.heap = h0 := by rw [← hh, Bd.state]; rfl
  have N0 := Fr.nil n0
  have ef : entryFrame m #[(.ref a), (.ref b)] 2 = mkF m 0 #[.val (.ref a), .val (.ref b)] [] := by first | (simp [entryFrame, mkF, argsToLocals, Value.category]; done) | rfl
  refine Fin.start (Q := Q_n1_1 Z a b kb c0 G1 h0 n0) ef ?_
  refine Fin.by (fun tt_ kk_ => XS.aloadN X0.here hx rfl (hb hby d_jdk_42_method_3_0) rfl rfl (XS.aloadN X0.here hx rfl (hb hby d_jdk_42_method_3_1) rfl rfl (XS.iconst X0.here hx rfl (hb hby d_jdk_42_method_3_2) (XS.aloadN X0.here hx rfl (hb hby d_jdk_42_method_3_3) rfl rfl kk_)))) ?_
  obtain ⟨cl101, Ar101, q101, S101, N101, H101, G101⟩ := id Ab
  refine Fin.by (fun tt_ kk_ => X0.arraylength hx (by rw [e0]; exact Ar101.1) (State.isArrayOf_alike hZ.alike Ar101.2.1) (g := (mkF m 4 #[.val (.ref a), .val (.ref b)] [(.ref b), (.int 0), (.ref b), (.ref a)])) rfl rfl (hb hby d_jdk_42_method_3_4) _ kk_) ?_
  rw [len_of S101 N101]
  refine Fin.by (fun tt_ kk_ => XS.aconstNull X0.here hx rfl (hb hby d_jdk_42_method_3_5) kk_) ?_
  obtain ⟨v102, _, ⟨T102, L102, k102, n102⟩, -, X102, ⟨Lc102, hQ102, l102, y102, z102⟩, st102⟩ := X0.specialBack hx (y := y_15) rfl hown (mvT hZ (w_ hw 13 rfl)) (mvT hZ (w_ hw 14 rfl)) (mvT hZ (w_ hw 16 rfl)) (by decide) (backOf (W := 0) (rm_n4_1 l Z a0 hw [] a b kb c0 G1 h0 n0 Z0 E0 F0 F1 ga Ab hb_0 S1 P1 S6 S7 S8 OL) hZ (w_ hw 16 rfl) (w_ hw 8 rfl) (by decide) (by decide)) (g := (mkF m 6 #[.val (.ref a), .val (.ref b)] [.null, (.int 1), (.int 0), (.ref b), (.ref a)])) rfl (by rw [hml]; rfl) (Steps.refl _) (a := a) (argsL := [(.ref b), (.int 0), (.int 1), .null]) (rest := []) (lenOf pd_243 rfl) rfl (by show 2 * 0 + _ ≤ _; exact Nat.le_of_eq rfl) (hb hby d_jdk_42_method_3_6) (fun _ _ => ⟨rfl, e0, (by decide : 0 + 2 ≤ _), (by decide : 0 + 3 ≤ _)⟩)
  dsimp only [Pt.U, Pt.locs, Pt.cells, Pt.slots] at X102 l102 y102 z102 st102 hQ102
  subst l102 y102 z102
  obtain ⟨t103, k104, cd105, N106, vs107, rfl, Nq102, p102_0, p102_1, p102_2, p102_3, p102_4, p102_5, p102_6⟩ := hQ102
  have N102_ := Fr.app N0 Nq102
  refine Fin.byS st102 ?_
  have kp108 : Keep h0 T102.heap [a] := (Keep.refl h0 [a]).trans p102_0 (allS (Or.inl (List.mem_of_getElem? (i := 0) rfl)) all0)
  show Fin _ _ _ _ _ _ _ (T102.setTop (mkF m 9 #[.val (.ref a), .val (.ref b)] []))
  exact Fin.ret (v := none) X102 (fun _ => rfl) Bd.notSynchronized (⟨t103, k104, cd105, N106, vs107, rfl, N102_, kp108, (Nat.le_trans (Nat.le_refl _) p102_1), p102_2, p102_3, p102_4, p102_5, p102_6⟩) (by decide) (by decide) (fun fs hr => X102.returnOut hx Bd.returns (hb hby d_jdk_42_method_3_9) hr)
def Q_c5_2 (Z : State) (b : Addr) (kb : ClassId) (d : Addr) (kd : ClassId) (c0 : Int32) (c1 : Int32) (h0 : Heap) (n0 : Nat) (vv_ : Option Value) (hh_ : Heap) (LL_ : List Loc) : Prop := ∃ (r : Int32), ∃ (vs : List Value), vv_ = some (.int r) ∧ Fr n0 LL_ ∧ Keep h0 hh_ [d] ∧ Arv Z hh_ d kd .byte (2 : Int32) vs (.int (0 : Int32)) ∧ ((r = (2 : Int32) ∧ vs = [(.int ((c0.toInt8.toInt32).toInt8.toInt32)), (.int ((c1.toInt8.toInt32).toInt8.toInt32))] ∧ ¬ (255 : Int32) < c0 ∧ ¬ (255 : Int32) < c1) ∨ (r = (0 : Int32) ∧ (255 : Int32) < c0) ∨ (r = (1 : Int32) ∧ (255 : Int32) < c1))
set_option maxRecDepth 65536 in
set_option maxHeartbeats 40000000 in
theorem rm_c5_2 (l : Launch) (Z : State) (a0 : Array Value) (hw : ∀ d ∈ tables_1, d.before a0 Z = true) (ws : List Jvm.Cond) (b : Addr) (kb : ClassId) (d : Addr) (kd : ClassId) (c0 : Int32) (c1 : Int32) (h0 : Heap) (n0 : Nat) (Z0 : n0 ≤ h0.size) (Ab : Arv Z h0 b kb .char (2 : Int32) [(.int c0), (.int c1)] (.int (0 : Int32))) (Ad : Arv Z h0 d kd .byte (2 : Int32) [(.int (0 : Int32)), (.int (0 : Int32))] (.int (0 : Int32))) (gd : n0 ≤ d) (nbd : b ≠ d) :
    MetFree l (⟨"java/lang/StringUTF16", "compress", "([CI[BII)I"⟩ : MethodName) (head1 (Jvm.Cond.code (⟨"java/lang/StringUTF16", "compress", "([CI[BII)I"⟩ : MethodName) jdk_52_method_21_code 7 (some .int) :: ws) ({ frames := 0, cells := 0, slots := 0, locals := 0 } : Room)) (fun aa_ U => aa_ = #[(.ref b), (.int (0 : Int32)), (.ref d), (.int (0 : Int32)), (.int (2 : Int32))] ∧ Z.Warmed39 U.vm ∧ U.heap = h0) (fun _ _ _ _ _ => True) (fun _ U o U' => ∃ vv_ LL_, o = .returned vv_ ∧ Q_c5_2 Z b kb d kd c0 c1 h0 n0 vv_ U'.heap LL_ ∧ FrameEnd U o U' LL_ 0 0) := by
  refine MetFree.of_bodySF (plainFor_of_name pn_java_lang_StringUTF16) hisR ?_
  intro p e s m args below meth c s₁ Bd hml0 hP hK
  obtain ⟨rfl, hZ, hh⟩ := hP
  have hx := Bd.exec
  have hby := Bd.bytes
  have hml : c.maxLocals = 7 := hml0
  have hown : s.vm.findClass "java/lang/StringUTF16" = some m.cls := findClass_of_methodNamed Bd.named
  have hnm := (name_of_methodNamed Bd.named Bd.method).1
  have X0 : Stand p l e ({ frames := 0, cells := 0, slots := 0, locals := 0 } : Room) s m #[(.ref b), (.int (0 : Int32)), (.ref d), (.int (0 : Int32)), (.int (2 : Int32))] below meth c s₁ [] 0 0 := Stand.of_body Bd
  have e0 : s₁.heap = h0 := by rw [← hh, Bd.state]; rfl
  have N0 := Fr.nil n0
  have ef : entryFrame m #[(.ref b), (.int (0 : Int32)), (.ref d), (.int (0 : Int32)), (.int (2 : Int32))] 7 = mkF m 0 #[.val (.ref b), .val (.int (0 : Int32)), .val (.ref d), .val (.int (0 : Int32)), .val (.int (2 : Int32)), .unset, .unset] [] := by first | (simp [entryFrame, mkF, argsToLocals, Value.category]; done) | rfl
  refine Fin.start (Q := Q_c5_2 Z b kb d kd c0 c1 h0 n0) ef ?_
  refine Fin.by (fun tt_ kk_ => XS.iconst X0.here hx rfl (hb hby d_jdk_52_method_21_0) (XS.istore X0.here hx rfl (hb hby d_jdk_52_method_21_1) rfl (l' := #[.val (.ref b), .val (.int 0), .val (.ref d), .val (.int 0), .val (.int 2), .val (.int 0), .unset]) rfl (XS.iload X0.here hx rfl (hb hby d_jdk_52_method_21_3) rfl (XS.iload X0.here hx rfl (hb hby d_jdk_52_method_21_5) rfl kk_)))) ?_
  show Fin _ _ _ _ _ _ _ (s₁.setTop (mkF m 7 #[.val (.ref b), .val (.int 0), .val (.ref d), .val (.int 0), .val (.int 2), .val (.int 0), .unset] [(.int 2), (.int 0)]))
  refine Fin.by (fun tt_ kk_ => XS.icmpNo X0.here hx rfl (hb hby d_jdk_52_method_21_7) rfl (tlt (by decide : (0 : Int32) < (2 : Int32))).2.1 kk_) ?_
  refine Fin.by (fun tt_ kk_ => XS.aloadN X0.here hx rfl (hb hby d_jdk_52_method_21_10) rfl rfl (XS.iloadN X0.here hx rfl (hb hby d_jdk_52_method_21_11) rfl kk_)) ?_
  obtain ⟨cl101, Ar101, q101, S101, N101, H101, G101⟩ := id Ab
  have hin101 : ¬ ((0 : Int32) < 0 ∨ cl101.slots.size ≤ (0 : Int32).toNatClampNeg) := inb_of S101 ⟨by decide, by decide⟩
  refine Fin.by (fun tt_ kk_ => X0.caload hx (j := (0 : Int32)) (v := (.int c0)) (by rw [e0]; exact Ar101.1) (State.isArrayOf_alike hZ.alike Ar101.2.1) Ar101.2.2 hin101 (Has.at H101 hin101 rfl) (g := (mkF m 12 #[.val (.ref b), .val (.int 0), .val (.ref d), .val (.int 0), .val (.int 2), .val (.int 0), .unset] [(.int 0), (.ref b)])) rfl rfl (hb hby d_jdk_52_method_21_12) _ kk_) ?_
  refine Fin.by (fun tt_ kk_ => XS.istore X0.here hx rfl (hb hby d_jdk_52_method_21_13) rfl (l' := #[.val (.ref b), .val (.int 0), .val (.ref d), .val (.int 0), .val (.int 2), .val (.int 0), .val (.int c0)]) rfl (XS.iload X0.here hx rfl (hb hby d_jdk_52_method_21_15) rfl (XS.sipush X0.here hx rfl (hb hby d_jdk_52_method_21_17) kk_))) ?_
  show Fin _ _ _ _ _ _ _ (s₁.setTop (mkF m 20 #[.val (.ref b), .val (.int 0), .val (.ref d), .val (.int 0), .val (.int 2), .val (.int 0), .val (.int c0)] [(.int 255), (.int c0)]))
  by_cases hx_0 : (255 : Int32) < c0
  · refine Fin.by (fun tt_ kk_ => XS.icmpNo X0.here hx rfl (hb hby d_jdk_52_method_21_20) rfl (tlt hx_0).2.2.2 kk_) ?_
    refine Fin.by (fun tt_ kk_ => XS.iload X0.here hx rfl (hb hby d_jdk_52_method_21_23) rfl kk_) ?_
    show Fin _ _ _ _ _ _ _ (s₁.setTop (mkF m 25 #[.val (.ref b), .val (.int 0), .val (.ref d), .val (.int 0), .val (.int 2), .val (.int 0), .val (.int c0)] [(.int 0)]))
    exact Fin.ret (v := some (.int (0 : Int32))) X0 (fun h => by rw [Bd.returns] at h; cases h) Bd.notSynchronized (by rw [e0]; exact ⟨(0 : Int32), [(.int (0 : Int32)), (.int (0 : Int32))], rfl, N0, (Keep.refl h0 [d]), Ad, (Or.inr (Or.inl ⟨rfl, hx_0⟩))⟩) (by decide) (by decide) (fun fs hr => retI X0 hx Bd.returns (hb hby d_jdk_52_method_21_25) hr)
  · refine Fin.by (fun tt_ kk_ => XS.icmpYes X0.here hx rfl (pc0 := 20) (pc' := 26) rfl (hb hby d_jdk_52_method_21_20) rfl (flt hx_0).2.2.2 (by decide) (by decide) kk_) ?_
    refine Fin.by (fun tt_ kk_ => XS.aloadN X0.here hx rfl (hb hby d_jdk_52_method_21_26) rfl rfl (XS.iloadN X0.here hx rfl (hb hby d_jdk_52_method_21_27) rfl (XS.iload X0.here hx rfl (hb hby d_jdk_52_method_21_28) rfl (XS.i2b X0.here hx rfl (hb hby d_jdk_52_method_21_30) rfl kk_)))) ?_
    obtain ⟨cl102, Ar102, q102, S102, N102, H102, G102⟩ := id Ad
    obtain ⟨T102, h102, X102, e102, W102, st102⟩ := stB X0 hx hZ e0 Ar102 (j := (0 : Int32)) (inb_of S102 ⟨by decide, by decide⟩) (g := (mkF m 31 #[.val (.ref b), .val (.int 0), .val (.ref d), .val (.int 0), .val (.int 2), .val (.int 0), .val (.int c0)] [(.int (c0.toInt8.toInt32)), (.int 0), (.ref d)])) rfl rfl (hb hby d_jdk_52_method_21_31)
    have V102 : Arv Z h102 d kd .byte (2 : Int32) [(.int ((c0.toInt8.toInt32).toInt8.toInt32)), (.int (0 : Int32))] (.int (0 : Int32)) := Arv.set Ar102 q102 S102 N102 H102 G102 (fits_nar_byte _) W102 0 rfl (Nat.le_of_ble_eq_true rfl)
    refine Fin.by (fun tt_ kk_ => st102 tt_ kk_) ?_
    have N102_ := Fr.snoc X102 N0 gd
    refine Fin.by (fun tt_ kk_ => XS.iinc X102.here hx rfl (hb hby d_jdk_52_method_21_32) rfl (l' := #[.val (.ref b), .val (.int 1), .val (.ref d), .val (.int 0), .val (.int 2), .val (.int 0), .val (.int c0)]) rfl (XS.iinc X102.here hx rfl (hb hby d_jdk_52_method_21_35) rfl (l' := #[.val (.ref b), .val (.int 1), .val (.ref d), .val (.int 1), .val (.int 2), .val (.int 0), .val (.int c0)]) rfl (XS.iinc X102.here hx rfl (hb hby d_jdk_52_method_21_38) rfl (l' := #[.val (.ref b), .val (.int 1), .val (.ref d), .val (.int 1), .val (.int 2), .val (.int 1), .val (.int c0)]) rfl (XS.goto X102.here hx rfl (pc0 := 41) (pc' := 3) rfl (hb hby d_jdk_52_method_21_41) (by decide) (by decide) (XS.iload X102.here hx rfl (hb hby d_jdk_52_method_21_3) rfl (XS.iload X102.here hx rfl (hb hby d_jdk_52_method_21_5) rfl kk_)))))) ?_
    show Fin _ _ _ _ _ _ _ (T102.setTop (mkF m 7 #[.val (.ref b), .val (.int 1), .val (.ref d), .val (.int 1), .val (.int 2), .val (.int 1), .val (.int c0)] [(.int 2), (.int 1)]))
    refine Fin.by (fun tt_ kk_ => XS.icmpNo X102.here hx rfl (hb hby d_jdk_52_method_21_7) rfl (tlt (by decide : (1 : Int32) < (2 : Int32))).2.1 kk_) ?_
    refine Fin.by (fun tt_ kk_ => XS.aloadN X102.here hx rfl (hb hby d_jdk_52_method_21_10) rfl rfl (XS.iloadN X102.here hx rfl (hb hby d_jdk_52_method_21_11) rfl kk_)) ?_
    have A103 : Arv Z h102 b kb .char (2 : Int32) [(.int c0), (.int c1)] (.int (0 : Int32)) := (Ab.other W102 nbd)
    obtain ⟨cl104, Ar104, q104, S104, N104, H104, G104⟩ := id A103
    have hin104 : ¬ ((1 : Int32) < 0 ∨ cl104.slots.size ≤ (1 : Int32).toNatClampNeg) := inb_of S104 ⟨by decide, by decide⟩
    refine Fin.by (fun tt_ kk_ => X102.caload hx (j := (1 : Int32)) (v := (.int c1)) (by rw [e102]; exact Ar104.1) (State.isArrayOf_alike hZ.alike Ar104.2.1) Ar104.2.2 hin104 (Has.at H104 hin104 rfl) (g := (mkF m 12 #[.val (.ref b), .val (.int 1), .val (.ref d), .val (.int 1), .val (.int 2), .val (.int 1), .val (.int c0)] [(.int 1), (.ref b)])) rfl rfl (hb hby d_jdk_52_method_21_12) _ kk_) ?_
    refine Fin.by (fun tt_ kk_ => XS.istore X102.here hx rfl (hb hby d_jdk_52_method_21_13) rfl (l' := #[.val (.ref b), .val (.int 1), .val (.ref d), .val (.int 1), .val (.int 2), .val (.int 1), .val (.int c1)]) rfl (XS.iload X102.here hx rfl (hb hby d_jdk_52_method_21_15) rfl (XS.sipush X102.here hx rfl (hb hby d_jdk_52_method_21_17) kk_))) ?_
    show Fin _ _ _ _ _ _ _ (T102.setTop (mkF m 20 #[.val (.ref b), .val (.int 1), .val (.ref d), .val (.int 1), .val (.int 2), .val (.int 1), .val (.int c1)] [(.int 255), (.int c1)]))
    by_cases hx_1 : (255 : Int32) < c1
    · refine Fin.by (fun tt_ kk_ => XS.icmpNo X102.here hx rfl (hb hby d_jdk_52_method_21_20) rfl (tlt hx_1).2.2.2 kk_) ?_
      refine Fin.by (fun tt_ kk_ => XS.iload X102.here hx rfl (hb hby d_jdk_52_method_21_23) rfl kk_) ?_
      have kp105 : Keep h0 h102 [d] := (Keep.refl h0 [d]).wr W102 (Or.inl (List.mem_of_getElem? (i := 0) rfl))
      show Fin _ _ _ _ _ _ _ (T102.setTop (mkF m 25 #[.val (.ref b), .val (.int 1), .val (.ref d), .val (.int 1), .val (.int 2), .val (.int 1), .val (.int c1)] [(.int 1)]))
      exact Fin.ret (v := some (.int (1 : Int32))) X102 (fun h => by rw [Bd.returns] at h; cases h) Bd.notSynchronized (by rw [e102]; exact ⟨(1 : Int32), [(.int ((c0.toInt8.toInt32).toInt8.toInt32)), (.int (0 : Int32))], rfl, N102_, kp105, V102, (Or.inr (Or.inr ⟨rfl, hx_1⟩))⟩) (by decide) (by decide) (fun fs hr => retI X102 hx Bd.returns (hb hby d_jdk_52_method_21_25) hr)
    · refine Fin.by (fun tt_ kk_ => XS.icmpYes X102.here hx rfl (pc0 := 20) (pc' := 26) rfl (hb hby d_jdk_52_method_21_20) rfl (flt hx_1).2.2.2 (by decide) (by decide) kk_) ?_
      refine Fin.by (fun tt_ kk_ => XS.aloadN X102.here hx rfl (hb hby d_jdk_52_method_21_26) rfl rfl (XS.iloadN X102.here hx rfl (hb hby d_jdk_52_method_21_27) rfl (XS.iload X102.here hx rfl (hb hby d_jdk_52_method_21_28) rfl (XS.i2b X102.here hx rfl (hb hby d_jdk_52_method_21_30) rfl kk_)))) ?_
      obtain ⟨cl106, Ar106, q106, S106, N106, H106, G106⟩ := id V102
      obtain ⟨T106, h106, X106, e106, W106, st106⟩ := stB X102 hx hZ e102 Ar106 (j := (1 : Int32)) (inb_of S106 ⟨by decide, by decide⟩) (g := (mkF m 31 #[.val (.ref b), .val (.int 1), .val (.ref d), .val (.int 1), .val (.int 2), .val (.int 1), .val (.int c1)] [(.int (c1.toInt8.toInt32)), (.int 1), (.ref d)])) rfl rfl (hb hby d_jdk_52_method_21_31)
      have V106 : Arv Z h106 d kd .byte (2 : Int32) [(.int ((c0.toInt8.toInt32).toInt8.toInt32)), (.int ((c1.toInt8.toInt32).toInt8.toInt32))] (.int (0 : Int32)) := Arv.set Ar106 q106 S106 N106 H106 G106 (fits_nar_byte _) W106 1 rfl (Nat.le_of_ble_eq_true rfl)
      refine Fin.by (fun tt_ kk_ => st106 tt_ kk_) ?_
      have N106_ := Fr.snoc X106 N102_ gd
      refine Fin.by (fun tt_ kk_ => XS.iinc X106.here hx rfl (hb hby d_jdk_52_method_21_32) rfl (l' := #[.val (.ref b), .val (.int 2), .val (.ref d), .val (.int 1), .val (.int 2), .val (.int 1), .val (.int c1)]) rfl (XS.iinc X106.here hx rfl (hb hby d_jdk_52_method_21_35) rfl (l' := #[.val (.ref b), .val (.int 2), .val (.ref d), .val (.int 2), .val (.int 2), .val (.int 1), .val (.int c1)]) rfl (XS.iinc X106.here hx rfl (hb hby d_jdk_52_method_21_38) rfl (l' := #[.val (.ref b), .val (.int 2), .val (.ref d), .val (.int 2), .val (.int 2), .val (.int 2), .val (.int c1)]) rfl (XS.goto X106.here hx rfl (pc0 := 41) (pc' := 3) rfl (hb hby d_jdk_52_method_21_41) (by decide) (by decide) (XS.iload X106.here hx rfl (hb hby d_jdk_52_method_21_3) rfl (XS.iload X106.here hx rfl (hb hby d_jdk_52_method_21_5) rfl kk_)))))) ?_
      show Fin _ _ _ _ _ _ _ (T106.setTop (mkF m 7 #[.val (.ref b), .val (.int 2), .val (.ref d), .val (.int 2), .val (.int 2), .val (.int 2), .val (.int c1)] [(.int 2), (.int 2)]))
      refine Fin.by (fun tt_ kk_ => XS.icmpYes X106.here hx rfl (pc0 := 7) (pc' := 44) rfl (hb hby d_jdk_52_method_21_7) rfl (flt (by decide : ¬ (2 : Int32) < (2 : Int32))).2.1 (by decide) (by decide) kk_) ?_
      refine Fin.by (fun tt_ kk_ => XS.iload X106.here hx rfl (hb hby d_jdk_52_method_21_44) rfl kk_) ?_
      have kp107 : Keep h0 h102 [d] := (Keep.refl h0 [d]).wr W102 (Or.inl (List.mem_of_getElem? (i := 0) rfl))
      have kp108 : Keep h0 h106 [d] := kp107.wr W106 (Or.inl (List.mem_of_getElem? (i := 0) rfl))
      show Fin _ _ _ _ _ _ _ (T106.setTop (mkF m 46 #[.val (.ref b), .val (.int 2), .val (.ref d), .val (.int 2), .val (.int 2), .val (.int 2), .val (.int c1)] [(.int 2)]))
      exact Fin.ret (v := some (.int (2 : Int32))) X106 (fun h => by rw [Bd.returns] at h; cases h) Bd.notSynchronized (by rw [e106]; exact ⟨(2 : Int32), [(.int ((c0.toInt8.toInt32).toInt8.toInt32)), (.int ((c1.toInt8.toInt32).toInt8.toInt32))], rfl, N106_, kp108, V106, (Or.inl ⟨rfl, rfl, hx_0, hx_1⟩)⟩) (by decide) (by decide) (fun fs hr => retI X106 hx Bd.returns (hb hby d_jdk_52_method_21_46) hr)
def Q_nbl_2 (Z : State)  (h0 : Heap) (n0 : Nat) (vv_ : Option Value) (hh_ : Heap) (LL_ : List Loc) : Prop := vv_ = some (.int (4 : Int32)) ∧ Fr n0 LL_ ∧ hh_ = h0
set_option maxRecDepth 65536 in
set_option maxHeartbeats 40000000 in
theorem rm_nbl_2 (l : Launch) (Z : State) (a0 : Array Value) (hw : ∀ d ∈ tables_1, d.before a0 Z = true) (ws : List Jvm.Cond)  (h0 : Heap) (n0 : Nat) (Z0 : n0 ≤ h0.size) :
    MetFree l (⟨"java/lang/StringUTF16", "newBytesLength", "(I)I"⟩ : MethodName) (head1 (Jvm.Cond.code (⟨"java/lang/StringUTF16", "newBytesLength", "(I)I"⟩ : MethodName) jdk_52_method_3_code 1 (some .int) :: ws) ({ frames := 0, cells := 0, slots := 0, locals := 0 } : Room)) (fun aa_ U => aa_ = #[(.int (2 : Int32))] ∧ Z.Warmed39 U.vm ∧ U.heap = h0) (fun _ _ _ _ _ => True) (fun _ U o U' => ∃ vv_ LL_, o = .returned vv_ ∧ Q_nbl_2 Z  h0 n0 vv_ U'.heap LL_ ∧ FrameEnd U o U' LL_ 0 0) := by
  refine MetFree.of_bodySF (plainFor_of_name pn_java_lang_StringUTF16) hisR ?_
  intro p e s m args below meth c s₁ Bd hml0 hP hK
  obtain ⟨rfl, hZ, hh⟩ := hP
  have hx := Bd.exec
  have hby := Bd.bytes
  have hml : c.maxLocals = 1 := hml0
  have hown : s.vm.findClass "java/lang/StringUTF16" = some m.cls := findClass_of_methodNamed Bd.named
  have hnm := (name_of_methodNamed Bd.named Bd.method).1
  have X0 : Stand p l e ({ frames := 0, cells := 0, slots := 0, locals := 0 } : Room) s m #[(.int (2 : Int32))] below meth c s₁ [] 0 0 := Stand.of_body Bd
  have e0 : s₁.heap = h0 := by rw [← hh, Bd.state]; rfl
  have N0 := Fr.nil n0
  have ef : entryFrame m #[(.int (2 : Int32))] 1 = mkF m 0 #[.val (.int (2 : Int32))] [] := by first | (simp [entryFrame, mkF, argsToLocals, Value.category]; done) | rfl
  refine Fin.start (Q := Q_nbl_2 Z  h0 n0) ef ?_
  refine Fin.by (fun tt_ kk_ => XS.iloadN X0.here hx rfl (hb hby d_jdk_52_method_3_0) rfl kk_) ?_
  show Fin _ _ _ _ _ _ _ (s₁.setTop (mkF m 1 #[.val (.int 2)] [(.int 2)]))
  refine Fin.by (fun tt_ kk_ => XS.ifYes X0.here hx rfl (pc0 := 1) (pc' := 12) rfl (hb hby d_jdk_52_method_3_1) rfl ((if0 _ _).trans (flt (by decide : ¬ (2 : Int32) < (0 : Int32))).2.1) (by decide) (by decide) kk_) ?_
  refine Fin.by (fun tt_ kk_ => XS.iloadN X0.here hx rfl (hb hby d_jdk_52_method_3_12) rfl kk_) ?_
  refine Fin.by (fun tt_ kk_ => X0.ldcInt hx hown (mvT hZ (w_ hw 88 rfl)) (g := (mkF m 13 #[.val (.int 2)] [(.int 2)])) rfl (hb hby d_jdk_52_method_3_13) _ kk_) ?_
  show Fin _ _ _ _ _ _ _ (s₁.setTop (mkF m 15 #[.val (.int 2)] [(.int 1073741823), (.int 2)]))
  refine Fin.by (fun tt_ kk_ => XS.icmpYes X0.here hx rfl (pc0 := 15) (pc' := 55) rfl (hb hby d_jdk_52_method_3_15) rfl (tlt (by decide : (2 : Int32) < (1073741823 : Int32))).1 (by decide) (by decide) kk_) ?_
  refine Fin.by (fun tt_ kk_ => XS.iloadN X0.here hx rfl (hb hby d_jdk_52_method_3_55) rfl (XS.iconst X0.here hx rfl (hb hby d_jdk_52_method_3_56) (XS.ishl X0.here hx rfl (hb hby d_jdk_52_method_3_57) rfl kk_))) ?_
  show Fin _ _ _ _ _ _ _ (s₁.setTop (mkF m 58 #[.val (.int 2)] [(.int 4)]))
  exact Fin.ret (v := some (.int (4 : Int32))) X0 (fun h => by rw [Bd.returns] at h; cases h) Bd.notSynchronized (by rw [e0]; exact ⟨rfl, N0, rfl⟩) (by decide) (by decide) (fun fs hr => retI X0 hx Bd.returns (hb hby d_jdk_52_method_3_58) hr)
def Q_nbf_2 (Z : State)  (h0 : Heap) (n0 : Nat) (vv_ : Option Value) (hh_ : Heap) (LL_ : List Loc) : Prop := ∃ (t : Addr), ∃ (k : ClassId), vv_ = some (.ref t) ∧ Fr n0 LL_ ∧ Keep h0 hh_ [] ∧ h0.size ≤ t ∧ Arv Z hh_ t k .byte (4 : Int32) [(.int (0 : Int32)), (.int (0 : Int32)), (.int (0 : Int32)), (.int (0 : Int32))] (.int (0 : Int32))
set_option maxRecDepth 65536 in
set_option maxHeartbeats 40000000 in
theorem rm_nbf_2 (l : Launch) (Z : State) (a0 : Array Value) (hw : ∀ d ∈ tables_1, d.before a0 Z = true) (ws : List Jvm.Cond)  (h0 : Heap) (n0 : Nat) (Z0 : n0 ≤ h0.size) :
    MetFree l (⟨"java/lang/StringUTF16", "newBytesFor", "(I)[B"⟩ : MethodName) (head1 (Jvm.Cond.code (⟨"java/lang/StringUTF16", "newBytesFor", "(I)[B"⟩ : MethodName) jdk_52_method_2_code 1 (some (.array .byte)) :: ws) ({ frames := 1, cells := 1, slots := 4, locals := 12 } : Room)) (fun aa_ U => aa_ = #[(.int (2 : Int32))] ∧ Z.Warmed39 U.vm ∧ U.heap = h0) (fun _ _ _ _ _ => True) (fun _ U o U' => ∃ vv_ LL_, o = .returned vv_ ∧ Q_nbf_2 Z  h0 n0 vv_ U'.heap LL_ ∧ FrameEnd U o U' LL_ 1 4) := by
  refine MetFree.of_bodySF (plainFor_of_name pn_java_lang_StringUTF16) hisR ?_
  intro p e s m args below meth c s₁ Bd hml0 hP hK
  obtain ⟨rfl, hZ, hh⟩ := hP
  have hx := Bd.exec
  have hby := Bd.bytes
  have hml : c.maxLocals = 1 := hml0
  have hown : s.vm.findClass "java/lang/StringUTF16" = some m.cls := findClass_of_methodNamed Bd.named
  have hnm := (name_of_methodNamed Bd.named Bd.method).1
  have X0 : Stand p l e ({ frames := 1, cells := 1, slots := 4, locals := 12 } : Room) s m #[(.int (2 : Int32))] below meth c s₁ [] 0 0 := Stand.of_body Bd
  have e0 : s₁.heap = h0 := by rw [← hh, Bd.state]; rfl
  have N0 := Fr.nil n0
  have ef : entryFrame m #[(.int (2 : Int32))] 1 = mkF m 0 #[.val (.int (2 : Int32))] [] := by first | (simp [entryFrame, mkF, argsToLocals, Value.category]; done) | rfl
  refine Fin.start (Q := Q_nbf_2 Z  h0 n0) ef ?_
  refine Fin.by (fun tt_ kk_ => XS.iloadN X0.here hx rfl (hb hby d_jdk_52_method_2_0) rfl kk_) ?_
  obtain ⟨v101, _, ⟨T101, L101, k101, n101⟩, -, X101, ⟨Lc101, hQ101, l101, y101, z101⟩, st101⟩ := Jvm.LawKit.callS X0 hx (y := y_8) hown (mvT hZ (w_ hw 85 rfl)) (mvT hZ (w_ hw 86 rfl)) (mvT hZ (w_ hw 71 rfl)) (mvT hZ (w_ hw 87 rfl)) (by decide) (backOf (W := 0) (rm_nbl_2 l Z a0 hw []  h0 n0 Z0 ) hZ (w_ hw 87 rfl) (w_ hw 71 rfl) (by decide) (by decide)) (g := (mkF m 1 #[.val (.int 2)] [(.int 2)])) rfl (by rw [hml]; rfl) (argsL := [(.int 2)]) (rest := []) (lenOf pd_154 rfl) rfl (by show 2 * 0 + _ ≤ _; exact Nat.le_of_eq rfl) (hb hby d_jdk_52_method_2_1) (fun _ _ => ⟨rfl, e0, (by decide : 0 + 0 ≤ _), (by decide : 0 + 0 ≤ _)⟩)
  dsimp only [Pt.U, Pt.locs, Pt.cells, Pt.slots] at X101 l101 y101 z101 st101 hQ101
  subst l101 y101 z101
  obtain ⟨rfl, Nq101, e101_⟩ := hQ101
  have N101_ := Fr.app N0 Nq101
  refine Fin.by (fun tt_ kk_ => st101 tt_ kk_) ?_
  have e101 := e101_
  obtain ⟨T102, h102, k102, X102, e102, E102, A102, st102⟩ := newP X101 hx hZ (w_ hw 21 rfl) e101 (g := (mkF m 4 #[.val (.int 2)] [(.int 4)])) rfl (hb hby d_jdk_52_method_2_4) rfl (by decide) (cap := 4) (by decide) (by decide) (by decide) (by decide)
  obtain ⟨a102, g102⟩ : ∃ z, z = h0.size := ⟨_, rfl⟩
  rw [← g102] at A102 st102
  refine Fin.by (fun tt_ kk_ => st102 tt_ kk_) ?_
  have V102 : Arv Z h102 a102 k102 .byte (4 : Int32) [(.int (0 : Int32)), (.int (0 : Int32)), (.int (0 : Int32)), (.int (0 : Int32))] (.int (0 : Int32)) := (Arv.new A102 (by decide)).pad (pad_rep [] (.int (0 : Int32)) 4)
  have kp103 : Keep h0 h102 [] := (Keep.refl h0 []).ext E102
  show Fin _ _ _ _ _ _ _ (T102.setTop (mkF m 6 #[.val (.int 2)] [(.ref a102)]))
  exact Fin.ret (v := some (.ref a102)) X102 (fun h => by rw [Bd.returns] at h; cases h) Bd.notSynchronized (by rw [e102]; exact ⟨a102, k102, rfl, N101_, kp103, (Nat.le_trans (Nat.le_refl _) (Nat.le_of_eq g102.symm)), V102⟩) (by decide) (by decide) (fun fs hr => retA X102 hx Bd.returns rfl rfl (hb hby d_jdk_52_method_2_6) hr)
def Q_tob_2 (Z : State) (b : Addr) (kb : ClassId) (c0 : Int32) (c1 : Int32) (h0 : Heap) (n0 : Nat) (vv_ : Option Value) (hh_ : Heap) (LL_ : List Loc) : Prop := ∃ (t : Addr), ∃ (k : ClassId), vv_ = some (.ref t) ∧ Fr n0 LL_ ∧ Keep h0 hh_ [] ∧ h0.size ≤ t ∧ Arv Z hh_ t k .byte (4 : Int32) [(.int (((c0 >>> ((0 : Int32) &&& 31)).toInt8.toInt32).toInt8.toInt32)), (.int (((c0 >>> ((8 : Int32) &&& 31)).toInt8.toInt32).toInt8.toInt32)), (.int (((c1 >>> ((0 : Int32) &&& 31)).toInt8.toInt32).toInt8.toInt32)), (.int (((c1 >>> ((8 : Int32) &&& 31)).toInt8.toInt32).toInt8.toInt32))] (.int (0 : Int32))
set_option maxRecDepth 65536 in
set_option maxHeartbeats 40000000 in
theorem rm_tob_2 (l : Launch) (Z : State) (a0 : Array Value) (hw : ∀ d ∈ tables_1, d.before a0 Z = true) (ws : List Jvm.Cond) (b : Addr) (kb : ClassId) (c0 : Int32) (c1 : Int32) (h0 : Heap) (n0 : Nat) (Z0 : n0 ≤ h0.size) (Ab : Arv Z h0 b kb .char (2 : Int32) [(.int c0), (.int c1)] (.int (0 : Int32))) (S6 : Sta Z Z.heap "java/lang/StringUTF16" "$assertionsDisabled" "Z" (.int (1 : Int32))) (S7 : Sta Z Z.heap "java/lang/StringUTF16" "HI_BYTE_SHIFT" "I" (.int (0 : Int32))) (S8 : Sta Z Z.heap "java/lang/StringUTF16" "LO_BYTE_SHIFT" "I" (.int (8 : Int32))) (OL : Old Z n0 h0) :
    MetFree l (⟨"java/lang/StringUTF16", "toBytes", "([CII)[B"⟩ : MethodName) (head1 (Jvm.Cond.code (⟨"java/lang/StringUTF16", "toBytes", "([CII)[B"⟩ : MethodName) jdk_52_method_14_code 5 (some (.array .byte)) :: ws) ({ frames := 2, cells := 1, slots := 4, locals := 24 } : Room)) (fun aa_ U => aa_ = #[(.ref b), (.int (0 : Int32)), (.int (2 : Int32))] ∧ Z.Warmed39 U.vm ∧ U.heap = h0) (fun _ _ _ _ _ => True) (fun _ U o U' => ∃ vv_ LL_, o = .returned vv_ ∧ Q_tob_2 Z b kb c0 c1 h0 n0 vv_ U'.heap LL_ ∧ FrameEnd U o U' LL_ 1 4) := by
  refine MetFree.of_bodySF (plainFor_of_name pn_java_lang_StringUTF16) hisR ?_
  intro p e s m args below meth c s₁ Bd hml0 hP hK
  obtain ⟨rfl, hZ, hh⟩ := hP
  have hx := Bd.exec
  have hby := Bd.bytes
  have hml : c.maxLocals = 5 := hml0
  have hown : s.vm.findClass "java/lang/StringUTF16" = some m.cls := findClass_of_methodNamed Bd.named
  have hnm := (name_of_methodNamed Bd.named Bd.method).1
  have X0 : Stand p l e ({ frames := 2, cells := 1, slots := 4, locals := 24 } : Room) s m #[(.ref b), (.int (0 : Int32)), (.int (2 : Int32))] below meth c s₁ [] 0 0 := Stand.of_body Bd
  have e0 : s₁.heap = h0 := by rw [← hh, Bd.state]; rfl
  have N0 := Fr.nil n0
  have ef : entryFrame m #[(.ref b), (.int (0 : Int32)), (.int (2 : Int32))] 5 = mkF m 0 #[.val (.ref b), .val (.int (0 : Int32)), .val (.int (2 : Int32)), .unset, .unset] [] := by first | (simp [entryFrame, mkF, argsToLocals, Value.category]; done) | rfl
  refine Fin.start (Q := Q_tob_2 Z b kb c0 c1 h0 n0) ef ?_
  refine Fin.by (fun tt_ kk_ => XS.iloadN X0.here hx rfl (hb hby d_jdk_52_method_14_0) rfl kk_) ?_
  obtain ⟨v101, _, ⟨T101, L101, k101, n101⟩, -, X101, ⟨Lc101, hQ101, l101, y101, z101⟩, st101⟩ := Jvm.LawKit.callS X0 hx (y := y_9) hown (mvT hZ (w_ hw 82 rfl)) (mvT hZ (w_ hw 83 rfl)) (mvT hZ (w_ hw 71 rfl)) (mvT hZ (w_ hw 84 rfl)) (by decide) (backOf (W := 0) (rm_nbf_2 l Z a0 hw []  h0 n0 Z0 ) hZ (w_ hw 84 rfl) (w_ hw 71 rfl) (by decide) (by decide)) (g := (mkF m 1 #[.val (.ref b), .val (.int 0), .val (.int 2), .unset, .unset] [(.int 2)])) rfl (by rw [hml]; rfl) (argsL := [(.int 2)]) (rest := []) (lenOf pd_159 rfl) rfl (by show 2 * 0 + _ ≤ _; exact Nat.le_of_eq rfl) (hb hby d_jdk_52_method_14_1) (fun _ _ => ⟨rfl, e0, (by decide : 0 + 1 ≤ _), (by decide : 0 + 4 ≤ _)⟩)
  dsimp only [Pt.U, Pt.locs, Pt.cells, Pt.slots] at X101 l101 y101 z101 st101 hQ101
  subst l101 y101 z101
  obtain ⟨t102, k103, rfl, Nq101, p101_0, p101_1, p101_2⟩ := hQ101
  have N101_ := Fr.app N0 Nq101
  refine Fin.by (fun tt_ kk_ => st101 tt_ kk_) ?_
  refine Fin.by (fun tt_ kk_ => XS.astoreN X101.here hx rfl (hb hby d_jdk_52_method_14_4) rfl rfl (l' := #[.val (.ref b), .val (.int 0), .val (.int 2), .val (.ref t102), .unset]) rfl (XS.iconst X101.here hx rfl (hb hby d_jdk_52_method_14_5) (XS.istore X101.here hx rfl (hb hby d_jdk_52_method_14_6) rfl (l' := #[.val (.ref b), .val (.int 0), .val (.int 2), .val (.ref t102), .val (.int 0)]) rfl (XS.iload X101.here hx rfl (hb hby d_jdk_52_method_14_8) rfl (XS.iloadN X101.here hx rfl (hb hby d_jdk_52_method_14_10) rfl kk_))))) ?_
  show Fin _ _ _ _ _ _ _ (T101.setTop (mkF m 11 #[.val (.ref b), .val (.int 0), .val (.int 2), .val (.ref t102), .val (.int 0)] [(.int 2), (.int 0)]))
  refine Fin.by (fun tt_ kk_ => XS.icmpNo X101.here hx rfl (hb hby d_jdk_52_method_14_11) rfl (tlt (by decide : (0 : Int32) < (2 : Int32))).2.1 kk_) ?_
  refine Fin.by (fun tt_ kk_ => XS.aloadN X101.here hx rfl (hb hby d_jdk_52_method_14_14) rfl rfl (XS.iload X101.here hx rfl (hb hby d_jdk_52_method_14_15) rfl (XS.aloadN X101.here hx rfl (hb hby d_jdk_52_method_14_17) rfl rfl (XS.iloadN X101.here hx rfl (hb hby d_jdk_52_method_14_18) rfl kk_)))) ?_
  have A104 : Arv Z T101.heap b kb .char (2 : Int32) [(.int c0), (.int c1)] (.int (0 : Int32)) := (Ab.keep p101_0 nin0)
  obtain ⟨cl105, Ar105, q105, S105, N105, H105, G105⟩ := id A104
  have hin105 : ¬ ((0 : Int32) < 0 ∨ cl105.slots.size ≤ (0 : Int32).toNatClampNeg) := inb_of S105 ⟨by decide, by decide⟩
  refine Fin.by (fun tt_ kk_ => X101.caload hx (j := (0 : Int32)) (v := (.int c0)) (Ar105.1) (State.isArrayOf_alike hZ.alike Ar105.2.1) Ar105.2.2 hin105 (Has.at H105 hin105 rfl) (g := (mkF m 19 #[.val (.ref b), .val (.int 0), .val (.int 2), .val (.ref t102), .val (.int 0)] [(.int 0), (.ref b), (.int 0), (.ref t102)])) rfl rfl (hb hby d_jdk_52_method_14_19) _ kk_) ?_
  have g106 : n0 ≤ t102 := Nat.le_trans Z0 p101_1
  have O107 : Old Z n0 T101.heap := (OL.keep p101_0 all0)
  have z108 : n0 ≤ T101.heap.size := Nat.le_trans Z0 p101_0.1
  obtain ⟨v109, _, ⟨T109, L109, k109, n109⟩, -, X109, ⟨Lc109, hQ109, l109, y109, z109⟩, st109⟩ := Jvm.LawKit.callS X101 hx (y := y_10) hown (mvT hZ (w_ hw 89 rfl)) (mvT hZ (w_ hw 90 rfl)) (mvT hZ (w_ hw 71 rfl)) (mvT hZ (w_ hw 91 rfl)) (by decide) (backOf (W := 0) (rm_pch0 l Z a0 hw [] t102 k103 (4 : Int32) ([(.int (0 : Int32)), (.int (0 : Int32)), (.int (0 : Int32)), (.int (0 : Int32))] : List Value) c0 T101.heap n0 z108 (Nat.le_of_ble_eq_true rfl) (Nat.le_of_ble_eq_true rfl) (by decide) (by decide) p101_2 g106 S6 S7 S8 O107) hZ (w_ hw 91 rfl) (w_ hw 71 rfl) (by decide) (by decide)) (g := (mkF m 20 #[.val (.ref b), .val (.int 0), .val (.int 2), .val (.ref t102), .val (.int 0)] [(.int c0), (.int 0), (.ref t102)])) rfl (by rw [hml]; rfl) (argsL := [(.ref t102), (.int 0), (.int c0)]) (rest := []) (lenOf pd_172 rfl) rfl (by show 2 * 0 + _ ≤ _; exact Nat.le_of_eq rfl) (hb hby d_jdk_52_method_14_20) (fun _ _ => ⟨rfl, rfl, (by decide : 1 + 0 ≤ _), (by decide : 4 + 0 ≤ _)⟩)
  dsimp only [Pt.U, Pt.locs, Pt.cells, Pt.slots] at X109 l109 y109 z109 st109 hQ109
  subst l109 y109 z109
  obtain ⟨rfl, Nq109, p109_0, p109_1⟩ := hQ109
  have N109_ := Fr.app N101_ Nq109
  refine Fin.by (fun tt_ kk_ => st109 tt_ kk_) ?_
  have V110 : Arv Z T109.heap t102 k103 .byte (4 : Int32) [(.int (((c0 >>> ((0 : Int32) &&& 31)).toInt8.toInt32).toInt8.toInt32)), (.int (((c0 >>> ((8 : Int32) &&& 31)).toInt8.toInt32).toInt8.toInt32)), (.int (0 : Int32)), (.int (0 : Int32))] (.int (0 : Int32)) := p109_1
  refine Fin.by (fun tt_ kk_ => XS.iinc X109.here hx rfl (hb hby d_jdk_52_method_14_23) rfl (l' := #[.val (.ref b), .val (.int 1), .val (.int 2), .val (.ref t102), .val (.int 0)]) rfl (XS.iinc X109.here hx rfl (hb hby d_jdk_52_method_14_26) rfl (l' := #[.val (.ref b), .val (.int 1), .val (.int 2), .val (.ref t102), .val (.int 1)]) rfl (XS.goto X109.here hx rfl (pc0 := 29) (pc' := 8) rfl (hb hby d_jdk_52_method_14_29) (by decide) (by decide) (XS.iload X109.here hx rfl (hb hby d_jdk_52_method_14_8) rfl (XS.iloadN X109.here hx rfl (hb hby d_jdk_52_method_14_10) rfl kk_))))) ?_
  show Fin _ _ _ _ _ _ _ (T109.setTop (mkF m 11 #[.val (.ref b), .val (.int 1), .val (.int 2), .val (.ref t102), .val (.int 1)] [(.int 2), (.int 1)]))
  refine Fin.by (fun tt_ kk_ => XS.icmpNo X109.here hx rfl (hb hby d_jdk_52_method_14_11) rfl (tlt (by decide : (1 : Int32) < (2 : Int32))).2.1 kk_) ?_
  refine Fin.by (fun tt_ kk_ => XS.aloadN X109.here hx rfl (hb hby d_jdk_52_method_14_14) rfl rfl (XS.iload X109.here hx rfl (hb hby d_jdk_52_method_14_15) rfl (XS.aloadN X109.here hx rfl (hb hby d_jdk_52_method_14_17) rfl rfl (XS.iloadN X109.here hx rfl (hb hby d_jdk_52_method_14_18) rfl kk_)))) ?_
  have ne111 : b ≠ t102 := Nat.ne_of_lt (Nat.lt_of_lt_of_le Ab.lt p101_1)
  have A112 : Arv Z T109.heap b kb .char (2 : Int32) [(.int c0), (.int c1)] (.int (0 : Int32)) := (A104.keep p109_0 (ninS ne111 nin0))
  obtain ⟨cl113, Ar113, q113, S113, N113, H113, G113⟩ := id A112
  have hin113 : ¬ ((1 : Int32) < 0 ∨ cl113.slots.size ≤ (1 : Int32).toNatClampNeg) := inb_of S113 ⟨by decide, by decide⟩
  refine Fin.by (fun tt_ kk_ => X109.caload hx (j := (1 : Int32)) (v := (.int c1)) (Ar113.1) (State.isArrayOf_alike hZ.alike Ar113.2.1) Ar113.2.2 hin113 (Has.at H113 hin113 rfl) (g := (mkF m 19 #[.val (.ref b), .val (.int 1), .val (.int 2), .val (.ref t102), .val (.int 1)] [(.int 1), (.ref b), (.int 1), (.ref t102)])) rfl rfl (hb hby d_jdk_52_method_14_19) _ kk_) ?_
  have O114 : Old Z n0 T109.heap := (O107.keep p109_0 (allS g106 all0))
  have z115 : n0 ≤ T109.heap.size := Nat.le_trans z108 p109_0.1
  obtain ⟨v116, _, ⟨T116, L116, k116, n116⟩, -, X116, ⟨Lc116, hQ116, l116, y116, z116⟩, st116⟩ := Jvm.LawKit.callS X109 hx (y := y_10) hown (mvT hZ (w_ hw 89 rfl)) (mvT hZ (w_ hw 90 rfl)) (mvT hZ (w_ hw 71 rfl)) (mvT hZ (w_ hw 91 rfl)) (by decide) (backOf (W := 0) (rm_pch1 l Z a0 hw [] t102 k103 (4 : Int32) ([(.int (((c0 >>> ((0 : Int32) &&& 31)).toInt8.toInt32).toInt8.toInt32)), (.int (((c0 >>> ((8 : Int32) &&& 31)).toInt8.toInt32).toInt8.toInt32)), (.int (0 : Int32)), (.int (0 : Int32))] : List Value) c1 T109.heap n0 z115 (Nat.le_of_ble_eq_true rfl) (Nat.le_of_ble_eq_true rfl) (by decide) (by decide) V110 g106 S6 S7 S8 O114) hZ (w_ hw 91 rfl) (w_ hw 71 rfl) (by decide) (by decide)) (g := (mkF m 20 #[.val (.ref b), .val (.int 1), .val (.int 2), .val (.ref t102), .val (.int 1)] [(.int c1), (.int 1), (.ref t102)])) rfl (by rw [hml]; rfl) (argsL := [(.ref t102), (.int 1), (.int c1)]) (rest := []) (lenOf pd_172 rfl) rfl (by show 2 * 0 + _ ≤ _; exact Nat.le_of_eq rfl) (hb hby d_jdk_52_method_14_20) (fun _ _ => ⟨rfl, rfl, (by decide : 1 + 0 ≤ _), (by decide : 4 + 0 ≤ _)⟩)
  dsimp only [Pt.U, Pt.locs, Pt.cells, Pt.slots] at X116 l116 y116 z116 st116 hQ116
  subst l116 y116 z116
  obtain ⟨rfl, Nq116, p116_0, p116_1⟩ := hQ116
  have N116_ := Fr.app N109_ Nq116
  refine Fin.by (fun tt_ kk_ => st116 tt_ kk_) ?_
  have V117 : Arv Z T116.heap t102 k103 .byte (4 : Int32) [(.int (((c0 >>> ((0 : Int32) &&& 31)).toInt8.toInt32).toInt8.toInt32)), (.int (((c0 >>> ((8 : Int32) &&& 31)).toInt8.toInt32).toInt8.toInt32)), (.int (((c1 >>> ((0 : Int32) &&& 31)).toInt8.toInt32).toInt8.toInt32)), (.int (((c1 >>> ((8 : Int32) &&& 31)).toInt8.toInt32).toInt8.toInt32))] (.int (0 : Int32)) := p116_1
  refine Fin.by (fun tt_ kk_ => XS.iinc X116.here hx rfl (hb hby d_jdk_52_method_14_23) rfl (l' := #[.val (.ref b), .val (.int 2), .val (.int 2), .val (.ref t102), .val (.int 1)]) rfl (XS.iinc X116.here hx rfl (hb hby d_jdk_52_method_14_26) rfl (l' := #[.val (.ref b), .val (.int 2), .val (.int 2), .val (.ref t102), .val (.int 2)]) rfl (XS.goto X116.here hx rfl (pc0 := 29) (pc' := 8) rfl (hb hby d_jdk_52_method_14_29) (by decide) (by decide) (XS.iload X116.here hx rfl (hb hby d_jdk_52_method_14_8) rfl (XS.iloadN X116.here hx rfl (hb hby d_jdk_52_method_14_10) rfl kk_))))) ?_
  show Fin _ _ _ _ _ _ _ (T116.setTop (mkF m 11 #[.val (.ref b), .val (.int 2), .val (.int 2), .val (.ref t102), .val (.int 2)] [(.int 2), (.int 2)]))
  refine Fin.by (fun tt_ kk_ => XS.icmpYes X116.here hx rfl (pc0 := 11) (pc' := 32) rfl (hb hby d_jdk_52_method_14_11) rfl (flt (by decide : ¬ (2 : Int32) < (2 : Int32))).2.1 (by decide) (by decide) kk_) ?_
  refine Fin.by (fun tt_ kk_ => XS.aloadN X116.here hx rfl (hb hby d_jdk_52_method_14_32) rfl rfl kk_) ?_
  have kp118 : Keep h0 T101.heap [] := (Keep.refl h0 []).trans p101_0 all0
  have kp119 : Keep h0 T109.heap [] := kp118.trans p109_0 (allS (Or.inr (Nat.le_trans (Nat.le_refl _) p101_1)) all0)
  have kp120 : Keep h0 T116.heap [] := kp119.trans p116_0 (allS (Or.inr (Nat.le_trans (Nat.le_refl _) p101_1)) all0)
  show Fin _ _ _ _ _ _ _ (T116.setTop (mkF m 33 #[.val (.ref b), .val (.int 2), .val (.int 2), .val (.ref t102), .val (.int 2)] [(.ref t102)]))
  exact Fin.ret (v := some (.ref t102)) X116 (fun h => by rw [Bd.returns] at h; cases h) Bd.notSynchronized (⟨t102, k103, rfl, N116_, kp120, (Nat.le_trans (Nat.le_refl _) p101_1), V117⟩) (by decide) (by decide) (fun fs hr => retA X116 hx Bd.returns rfl rfl (hb hby d_jdk_52_method_14_33) hr)
def Q_c3_2 (Z : State) (b : Addr) (kb : ClassId) (c0 : Int32) (c1 : Int32) (h0 : Heap) (n0 : Nat) (vv_ : Option Value) (hh_ : Heap) (LL_ : List Loc) : Prop := ∃ (t : Addr), ∃ (k : ClassId), ∃ (cd : Int32), ∃ (N2 : Int32), ∃ (vs : List Value), vv_ = some (.ref t) ∧ Fr n0 LL_ ∧ Keep h0 hh_ [] ∧ h0.size ≤ t ∧ Arv Z hh_ t k .byte N2 vs (.int (0 : Int32)) ∧ (StrChars.Road.CodA ([c0, c1] : List Int32) cd N2 vs)
set_option maxRecDepth 65536 in
set_option maxHeartbeats 40000000 in
theorem rm_c3_2 (l : Launch) (Z : State) (a0 : Array Value) (hw : ∀ d ∈ tables_1, d.before a0 Z = true) (ws : List Jvm.Cond) (b : Addr) (kb : ClassId) (c0 : Int32) (c1 : Int32) (h0 : Heap) (n0 : Nat) (Z0 : n0 ≤ h0.size) (Ab : Arv Z h0 b kb .char (2 : Int32) [(.int c0), (.int c1)] (.int (0 : Int32))) (hb_0 : ¬ c0 < 0 ∧ ¬ (65535 : Int32) < c0) (hb_1 : ¬ c1 < 0 ∧ ¬ (65535 : Int32) < c1) (S6 : Sta Z Z.heap "java/lang/StringUTF16" "$assertionsDisabled" "Z" (.int (1 : Int32))) (S7 : Sta Z Z.heap "java/lang/StringUTF16" "HI_BYTE_SHIFT" "I" (.int (0 : Int32))) (S8 : Sta Z Z.heap "java/lang/StringUTF16" "LO_BYTE_SHIFT" "I" (.int (8 : Int32))) (OL : Old Z n0 h0) :
    MetFree l (⟨"java/lang/StringUTF16", "compress", "([CII)[B"⟩ : MethodName) (head1 (Jvm.Cond.code (⟨"java/lang/StringUTF16", "compress", "([CII)[B"⟩ : MethodName) jdk_52_method_16_code 6 (some (.array .byte)) :: ws) ({ frames := 3, cells := 2, slots := 6, locals := 40 } : Room)) (fun aa_ U => aa_ = #[(.ref b), (.int (0 : Int32)), (.int (2 : Int32))] ∧ Z.Warmed39 U.vm ∧ U.heap = h0) (fun _ _ _ _ _ => True) (fun _ U o U' => ∃ vv_ LL_, o = .returned vv_ ∧ Q_c3_2 Z b kb c0 c1 h0 n0 vv_ U'.heap LL_ ∧ FrameEnd U o U' LL_ 2 6) := by
  refine MetFree.of_bodySF (plainFor_of_name pn_java_lang_StringUTF16) hisR ?_
  intro p e s m args below meth c s₁ Bd hml0 hP hK
  obtain ⟨rfl, hZ, hh⟩ := hP
  have hx := Bd.exec
  have hby := Bd.bytes
  have hml : c.maxLocals = 6 := hml0
  have hown : s.vm.findClass "java/lang/StringUTF16" = some m.cls := findClass_of_methodNamed Bd.named
  have hnm := (name_of_methodNamed Bd.named Bd.method).1
  have X0 : Stand p l e ({ frames := 3, cells := 2, slots := 6, locals := 40 } : Room) s m #[(.ref b), (.int (0 : Int32)), (.int (2 : Int32))] below meth c s₁ [] 0 0 := Stand.of_body Bd
  have e0 : s₁.heap = h0 := by rw [← hh, Bd.state]; rfl
  have N0 := Fr.nil n0
  have ef : entryFrame m #[(.ref b), (.int (0 : Int32)), (.int (2 : Int32))] 6 = mkF m 0 #[.val (.ref b), .val (.int (0 : Int32)), .val (.int (2 : Int32)), .unset, .unset, .unset] [] := by first | (simp [entryFrame, mkF, argsToLocals, Value.category]; done) | rfl
  refine Fin.start (Q := Q_c3_2 Z b kb c0 c1 h0 n0) ef ?_
  refine Fin.by (fun tt_ kk_ => XS.iloadN X0.here hx rfl (hb hby d_jdk_52_method_16_0) rfl kk_) ?_
  obtain ⟨T101, h101, k101, X101, e101, E101, A101, st101⟩ := newP X0 hx hZ (w_ hw 21 rfl) e0 (g := (mkF m 1 #[.val (.ref b), .val (.int 0), .val (.int 2), .unset, .unset, .unset] [(.int 2)])) rfl (hb hby d_jdk_52_method_16_1) rfl (by decide) (cap := 2) (by decide) (by decide) (by decide) (by decide)
  obtain ⟨a101, g101⟩ : ∃ z, z = h0.size := ⟨_, rfl⟩
  rw [← g101] at A101 st101
  refine Fin.by (fun tt_ kk_ => st101 tt_ kk_) ?_
  have V101 : Arv Z h101 a101 k101 .byte (2 : Int32) [(.int (0 : Int32)), (.int (0 : Int32))] (.int (0 : Int32)) := (Arv.new A101 (by decide)).pad (pad_rep [] (.int (0 : Int32)) 2)
  refine Fin.by (fun tt_ kk_ => XS.astoreN X101.here hx rfl (hb hby d_jdk_52_method_16_3) rfl rfl (l' := #[.val (.ref b), .val (.int 0), .val (.int 2), .val (.ref a101), .unset, .unset]) rfl (XS.aloadN X101.here hx rfl (hb hby d_jdk_52_method_16_4) rfl rfl (XS.iloadN X101.here hx rfl (hb hby d_jdk_52_method_16_5) rfl (XS.aloadN X101.here hx rfl (hb hby d_jdk_52_method_16_6) rfl rfl (XS.iconst X101.here hx rfl (hb hby d_jdk_52_method_16_7) (XS.iloadN X101.here hx rfl (hb hby d_jdk_52_method_16_8) rfl kk_)))))) ?_
  have A102 : Arv Z h101 b kb .char (2 : Int32) [(.int c0), (.int c1)] (.int (0 : Int32)) := (Ab.ext E101)
  have g103 : n0 ≤ a101 := Nat.le_trans Z0 (Nat.le_of_eq g101.symm)
  have ne104 : b ≠ a101 := Nat.ne_of_lt (Nat.lt_of_lt_of_le Ab.lt (Nat.le_of_eq g101.symm))
  have z105 : n0 ≤ h101.size := Nat.le_trans Z0 E101.1
  obtain ⟨v106, _, ⟨T106, L106, k106, n106⟩, -, X106, ⟨Lc106, hQ106, l106, y106, z106⟩, st106⟩ := Jvm.LawKit.callS X101 hx (y := y_11) hown (mvT hZ (w_ hw 73 rfl)) (mvT hZ (w_ hw 74 rfl)) (mvT hZ (w_ hw 71 rfl)) (mvT hZ (w_ hw 75 rfl)) (by decide) (backOf (W := 0) (rm_c5_2 l Z a0 hw [] b kb a101 k101 c0 c1 h101 n0 z105 A102 V101 g103 ne104) hZ (w_ hw 75 rfl) (w_ hw 71 rfl) (by decide) (by decide)) (g := (mkF m 9 #[.val (.ref b), .val (.int 0), .val (.int 2), .val (.ref a101), .unset, .unset] [(.int 2), (.int 0), (.ref a101), (.int 0), (.ref b)])) rfl (by rw [hml]; rfl) (argsL := [(.ref b), (.int 0), (.ref a101), (.int 0), (.int 2)]) (rest := []) (lenOf pd_187 rfl) rfl (by show 2 * 0 + _ ≤ _; exact Nat.le_of_eq rfl) (hb hby d_jdk_52_method_16_9) (fun _ _ => ⟨rfl, e101, (by decide : 1 + 0 ≤ _), (by decide : 2 + 0 ≤ _)⟩)
  dsimp only [Pt.U, Pt.locs, Pt.cells, Pt.slots] at X106 l106 y106 z106 st106 hQ106
  subst l106 y106 z106
  obtain ⟨r107, vs108, rfl, Nq106, p106_0, p106_1, p106_2⟩ := hQ106
  have N106_ := Fr.app N0 Nq106
  refine Fin.by (fun tt_ kk_ => st106 tt_ kk_) ?_
  rcases p106_2 with ⟨hr, hvs, hx_0, hx_1⟩ | ⟨hr, hx_0⟩ | ⟨hr, hx_1⟩
  · subst hr
    subst hvs
    refine Fin.by (fun tt_ kk_ => XS.istore X106.here hx rfl (hb hby d_jdk_52_method_16_12) rfl (l' := #[.val (.ref b), .val (.int 0), .val (.int 2), .val (.ref a101), .val (.int 2), .unset]) rfl (XS.iload X106.here hx rfl (hb hby d_jdk_52_method_16_14) rfl (XS.iloadN X106.here hx rfl (hb hby d_jdk_52_method_16_16) rfl kk_))) ?_
    show Fin _ _ _ _ _ _ _ (T106.setTop (mkF m 17 #[.val (.ref b), .val (.int 0), .val (.int 2), .val (.ref a101), .val (.int 2), .unset] [(.int 2), (.int 2)]))
    refine Fin.by (fun tt_ kk_ => XS.icmpYes X106.here hx rfl (pc0 := 17) (pc' := 57) rfl (hb hby d_jdk_52_method_16_17) rfl (teq (rfl : (2 : Int32) = (2 : Int32))).1 (by decide) (by decide) kk_) ?_
    refine Fin.by (fun tt_ kk_ => XS.aloadN X106.here hx rfl (hb hby d_jdk_52_method_16_57) rfl rfl kk_) ?_
    have kp109 : Keep h0 h101 [] := (Keep.refl h0 []).ext E101
    have kp110 : Keep h0 T106.heap [] := kp109.trans p106_0 (allS (Or.inr (Nat.le_trans (Nat.le_refl _) (Nat.le_of_eq g101.symm))) all0)
    show Fin _ _ _ _ _ _ _ (T106.setTop (mkF m 58 #[.val (.ref b), .val (.int 0), .val (.int 2), .val (.ref a101), .val (.int 2), .unset] [(.ref a101)]))
    exact Fin.ret (v := some (.ref a101)) X106 (fun h => by rw [Bd.returns] at h; cases h) Bd.notSynchronized (⟨a101, k101, (0 : Int32), (2 : Int32), [(.int ((c0.toInt8.toInt32).toInt8.toInt32)), (.int ((c1.toInt8.toInt32).toInt8.toInt32))], rfl, N106_, kp110, (Nat.le_trans (Nat.le_refl _) (Nat.le_of_eq g101.symm)), p106_1, (Or.inl ⟨rfl, rfl, by simp [StrChars.lo8], (own_cons hx_0 (own_cons hx_1 own_nil))⟩)⟩) (by decide) (by decide) (fun fs hr => retA X106 hx Bd.returns rfl rfl (hb hby d_jdk_52_method_16_58) hr)
  · subst hr
    refine Fin.by (fun tt_ kk_ => XS.istore X106.here hx rfl (hb hby d_jdk_52_method_16_12) rfl (l' := #[.val (.ref b), .val (.int 0), .val (.int 2), .val (.ref a101), .val (.int 0), .unset]) rfl (XS.iload X106.here hx rfl (hb hby d_jdk_52_method_16_14) rfl (XS.iloadN X106.here hx rfl (hb hby d_jdk_52_method_16_16) rfl kk_))) ?_
    show Fin _ _ _ _ _ _ _ (T106.setTop (mkF m 17 #[.val (.ref b), .val (.int 0), .val (.int 2), .val (.ref a101), .val (.int 0), .unset] [(.int 2), (.int 0)]))
    refine Fin.by (fun tt_ kk_ => XS.icmpNo X106.here hx rfl (hb hby d_jdk_52_method_16_17) rfl (feq (by decide : ¬ (0 : Int32) = (2 : Int32))).1 kk_) ?_
    refine Fin.by (fun tt_ kk_ => XS.aloadN X106.here hx rfl (hb hby d_jdk_52_method_16_20) rfl rfl (XS.iloadN X106.here hx rfl (hb hby d_jdk_52_method_16_21) rfl (XS.iloadN X106.here hx rfl (hb hby d_jdk_52_method_16_22) rfl kk_))) ?_
    have A111 : Arv Z T106.heap b kb .char (2 : Int32) [(.int c0), (.int c1)] (.int (0 : Int32)) := (A102.keep p106_0 (ninS ne104 nin0))
    have O112 : Old Z n0 T106.heap := ((OL.ext E101).keep p106_0 (allS g103 all0))
    have z113 : n0 ≤ T106.heap.size := Nat.le_trans z105 p106_0.1
    obtain ⟨v114, _, ⟨T114, L114, k114, n114⟩, -, X114, ⟨Lc114, hQ114, l114, y114, z114⟩, st114⟩ := Jvm.LawKit.callS X106 hx (y := y_12) hown (mvT hZ (w_ hw 79 rfl)) (mvT hZ (w_ hw 80 rfl)) (mvT hZ (w_ hw 71 rfl)) (mvT hZ (w_ hw 81 rfl)) (by decide) (backOf (W := 0) (rm_tob_2 l Z a0 hw [] b kb c0 c1 T106.heap n0 z113 A111 S6 S7 S8 O112) hZ (w_ hw 81 rfl) (w_ hw 71 rfl) (by decide) (by decide)) (g := (mkF m 23 #[.val (.ref b), .val (.int 0), .val (.int 2), .val (.ref a101), .val (.int 0), .unset] [(.int 2), (.int 0), (.ref b)])) rfl (by rw [hml]; rfl) (argsL := [(.ref b), (.int 0), (.int 2)]) (rest := []) (lenOf pd_198 rfl) rfl (by show 2 * 0 + _ ≤ _; exact Nat.le_of_eq rfl) (hb hby d_jdk_52_method_16_23) (fun _ _ => ⟨rfl, rfl, (by decide : 1 + 1 ≤ _), (by decide : 2 + 4 ≤ _)⟩)
    dsimp only [Pt.U, Pt.locs, Pt.cells, Pt.slots] at X114 l114 y114 z114 st114 hQ114
    subst l114 y114 z114
    obtain ⟨t115, k116, rfl, Nq114, p114_0, p114_1, p114_2⟩ := hQ114
    have N114_ := Fr.app N106_ Nq114
    refine Fin.by (fun tt_ kk_ => st114 tt_ kk_) ?_
    refine Fin.by (fun tt_ kk_ => XS.astore X114.here hx rfl (hb hby d_jdk_52_method_16_26) rfl rfl (l' := #[.val (.ref b), .val (.int 0), .val (.int 2), .val (.ref a101), .val (.int 0), .val (.ref t115)]) rfl (XS.aload X114.here hx rfl (hb hby d_jdk_52_method_16_28) rfl rfl (XS.iload X114.here hx rfl (hb hby d_jdk_52_method_16_30) rfl kk_))) ?_
    have O117 : Old Z n0 T114.heap := (O112.keep p114_0 all0)
    have z118 : n0 ≤ T114.heap.size := Nat.le_trans z113 p114_0.1
    obtain ⟨v119, _, ⟨T119, L119, k119, n119⟩, -, X119, ⟨Lc119, hQ119, l119, y119, z119⟩, st119⟩ := Jvm.LawKit.callS X114 hx (y := y_4) hown (mvT hZ (w_ hw 95 rfl)) (mvT hZ (w_ hw 96 rfl)) (mvT hZ (w_ hw 71 rfl)) (mvT hZ (w_ hw 97 rfl)) (by decide) (backOf (W := 0) (rm_uge l Z a0 hw [] t115 k116 (4 : Int32) ([(.int (((c0 >>> ((0 : Int32) &&& 31)).toInt8.toInt32).toInt8.toInt32)), (.int (((c0 >>> ((8 : Int32) &&& 31)).toInt8.toInt32).toInt8.toInt32)), (.int (((c1 >>> ((0 : Int32) &&& 31)).toInt8.toInt32).toInt8.toInt32)), (.int (((c1 >>> ((8 : Int32) &&& 31)).toInt8.toInt32).toInt8.toInt32))] : List Value) 0 (0 : Int32) (((c0 >>> ((0 : Int32) &&& 31)).toInt8.toInt32).toInt8.toInt32) (((c0 >>> ((8 : Int32) &&& 31)).toInt8.toInt32).toInt8.toInt32) T114.heap n0 z118 rfl (by decide) (by decide) rfl rfl p114_2 S6 S7 S8 O117) hZ (w_ hw 97 rfl) (w_ hw 71 rfl) (by decide) (by decide)) (g := (mkF m 32 #[.val (.ref b), .val (.int 0), .val (.int 2), .val (.ref a101), .val (.int 0), .val (.ref t115)] [(.int 0), (.ref t115)])) rfl (by rw [hml]; rfl) (argsL := [(.ref t115), (.int 0)]) (rest := []) (lenOf pd_71 rfl) rfl (by show 2 * 0 + _ ≤ _; exact Nat.le_of_eq rfl) (hb hby d_jdk_52_method_16_32) (fun _ _ => ⟨rfl, rfl, (by decide : 2 + 0 ≤ _), (by decide : 6 + 0 ≤ _)⟩)
    dsimp only [Pt.U, Pt.locs, Pt.cells, Pt.slots] at X119 l119 y119 z119 st119 hQ119
    subst l119 y119 z119
    obtain ⟨rfl, Nq119, e119_⟩ := hQ119
    have N119_ := Fr.app N114_ Nq119
    refine Fin.by (fun tt_ kk_ => st119 tt_ kk_) ?_
    have e119 := e119_
    refine Fin.by (fun tt_ kk_ => XS.sipush X119.here hx rfl (hb hby d_jdk_52_method_16_35) kk_) ?_
    show Fin _ _ _ _ _ _ _ (T119.setTop (mkF m 38 #[.val (.ref b), .val (.int 0), .val (.int 2), .val (.ref a101), .val (.int 0), .val (.ref t115)] [(.int 255), (.int (nar .char (StrChars.pairCh (((c0 >>> (0 &&& 31)).toInt8.toInt32).toInt8.toInt32) (((c0 >>> (8 &&& 31)).toInt8.toInt32).toInt8.toInt32))))]))
    refine Fin.by (fun tt_ kk_ => XS.icmpYes X119.here hx rfl (pc0 := 38) (pc' := 54) rfl (hb hby d_jdk_52_method_16_38) rfl (tlt (by rw [own_pw hb_0]; exact hx_0 : (255 : Int32) < (nar .char (StrChars.pairCh (((c0 >>> ((0 : Int32) &&& 31)).toInt8.toInt32).toInt8.toInt32) (((c0 >>> ((8 : Int32) &&& 31)).toInt8.toInt32).toInt8.toInt32))))).2.2.1 (by decide) (by decide) kk_) ?_
    refine Fin.by (fun tt_ kk_ => XS.aload X119.here hx rfl (hb hby d_jdk_52_method_16_54) rfl rfl kk_) ?_
    have kp120 : Keep h0 h101 [] := (Keep.refl h0 []).ext E101
    have kp121 : Keep h0 T106.heap [] := kp120.trans p106_0 (allS (Or.inr (Nat.le_trans (Nat.le_refl _) (Nat.le_of_eq g101.symm))) all0)
    have kp122 : Keep h0 T114.heap [] := kp121.trans p114_0 all0
    show Fin _ _ _ _ _ _ _ (T119.setTop (mkF m 56 #[.val (.ref b), .val (.int 0), .val (.int 2), .val (.ref a101), .val (.int 0), .val (.ref t115)] [(.ref t115)]))
    exact Fin.ret (v := some (.ref t115)) X119 (fun h => by rw [Bd.returns] at h; cases h) Bd.notSynchronized (by rw [e119]; exact ⟨t115, k116, (1 : Int32), (4 : Int32), [(.int (((c0 >>> ((0 : Int32) &&& 31)).toInt8.toInt32).toInt8.toInt32)), (.int (((c0 >>> ((8 : Int32) &&& 31)).toInt8.toInt32).toInt8.toInt32)), (.int (((c1 >>> ((0 : Int32) &&& 31)).toInt8.toInt32).toInt8.toInt32)), (.int (((c1 >>> ((8 : Int32) &&& 31)).toInt8.toInt32).toInt8.toInt32))], rfl, N119_, kp122, (Nat.le_trans (Nat.le_trans E101.1 p106_0.1) p114_1), p114_2, (Or.inr ⟨rfl, rfl, by simp only [StrChars.Road.wideBytes, own_raw_lo, own_raw_hi], ⟨c0, by simp, hx_0⟩⟩)⟩) (by decide) (by decide) (fun fs hr => retA X119 hx Bd.returns rfl rfl (hb hby d_jdk_52_method_16_56) hr)
  · subst hr
    refine Fin.by (fun tt_ kk_ => XS.istore X106.here hx rfl (hb hby d_jdk_52_method_16_12) rfl (l' := #[.val (.ref b), .val (.int 0), .val (.int 2), .val (.ref a101), .val (.int 1), .unset]) rfl (XS.iload X106.here hx rfl (hb hby d_jdk_52_method_16_14) rfl (XS.iloadN X106.here hx rfl (hb hby d_jdk_52_method_16_16) rfl kk_))) ?_
    show Fin _ _ _ _ _ _ _ (T106.setTop (mkF m 17 #[.val (.ref b), .val (.int 0), .val (.int 2), .val (.ref a101), .val (.int 1), .unset] [(.int 2), (.int 1)]))
    refine Fin.by (fun tt_ kk_ => XS.icmpNo X106.here hx rfl (hb hby d_jdk_52_method_16_17) rfl (feq (by decide : ¬ (1 : Int32) = (2 : Int32))).1 kk_) ?_
    refine Fin.by (fun tt_ kk_ => XS.aloadN X106.here hx rfl (hb hby d_jdk_52_method_16_20) rfl rfl (XS.iloadN X106.here hx rfl (hb hby d_jdk_52_method_16_21) rfl (XS.iloadN X106.here hx rfl (hb hby d_jdk_52_method_16_22) rfl kk_))) ?_
    have A123 : Arv Z T106.heap b kb .char (2 : Int32) [(.int c0), (.int c1)] (.int (0 : Int32)) := (A102.keep p106_0 (ninS ne104 nin0))
    have O124 : Old Z n0 T106.heap := ((OL.ext E101).keep p106_0 (allS g103 all0))
    have z125 : n0 ≤ T106.heap.size := Nat.le_trans z105 p106_0.1
    obtain ⟨v126, _, ⟨T126, L126, k126, n126⟩, -, X126, ⟨Lc126, hQ126, l126, y126, z126⟩, st126⟩ := Jvm.LawKit.callS X106 hx (y := y_12) hown (mvT hZ (w_ hw 79 rfl)) (mvT hZ (w_ hw 80 rfl)) (mvT hZ (w_ hw 71 rfl)) (mvT hZ (w_ hw 81 rfl)) (by decide) (backOf (W := 0) (rm_tob_2 l Z a0 hw [] b kb c0 c1 T106.heap n0 z125 A123 S6 S7 S8 O124) hZ (w_ hw 81 rfl) (w_ hw 71 rfl) (by decide) (by decide)) (g := (mkF m 23 #[.val (.ref b), .val (.int 0), .val (.int 2), .val (.ref a101), .val (.int 1), .unset] [(.int 2), (.int 0), (.ref b)])) rfl (by rw [hml]; rfl) (argsL := [(.ref b), (.int 0), (.int 2)]) (rest := []) (lenOf pd_198 rfl) rfl (by show 2 * 0 + _ ≤ _; exact Nat.le_of_eq rfl) (hb hby d_jdk_52_method_16_23) (fun _ _ => ⟨rfl, rfl, (by decide : 1 + 1 ≤ _), (by decide : 2 + 4 ≤ _)⟩)
    dsimp only [Pt.U, Pt.locs, Pt.cells, Pt.slots] at X126 l126 y126 z126 st126 hQ126
    subst l126 y126 z126
    obtain ⟨t127, k128, rfl, Nq126, p126_0, p126_1, p126_2⟩ := hQ126
    have N126_ := Fr.app N106_ Nq126
    refine Fin.by (fun tt_ kk_ => st126 tt_ kk_) ?_
    refine Fin.by (fun tt_ kk_ => XS.astore X126.here hx rfl (hb hby d_jdk_52_method_16_26) rfl rfl (l' := #[.val (.ref b), .val (.int 0), .val (.int 2), .val (.ref a101), .val (.int 1), .val (.ref t127)]) rfl (XS.aload X126.here hx rfl (hb hby d_jdk_52_method_16_28) rfl rfl (XS.iload X126.here hx rfl (hb hby d_jdk_52_method_16_30) rfl kk_))) ?_
    have O129 : Old Z n0 T126.heap := (O124.keep p126_0 all0)
    have z130 : n0 ≤ T126.heap.size := Nat.le_trans z125 p126_0.1
    obtain ⟨v131, _, ⟨T131, L131, k131, n131⟩, -, X131, ⟨Lc131, hQ131, l131, y131, z131⟩, st131⟩ := Jvm.LawKit.callS X126 hx (y := y_4) hown (mvT hZ (w_ hw 95 rfl)) (mvT hZ (w_ hw 96 rfl)) (mvT hZ (w_ hw 71 rfl)) (mvT hZ (w_ hw 97 rfl)) (by decide) (backOf (W := 0) (rm_uge l Z a0 hw [] t127 k128 (4 : Int32) ([(.int (((c0 >>> ((0 : Int32) &&& 31)).toInt8.toInt32).toInt8.toInt32)), (.int (((c0 >>> ((8 : Int32) &&& 31)).toInt8.toInt32).toInt8.toInt32)), (.int (((c1 >>> ((0 : Int32) &&& 31)).toInt8.toInt32).toInt8.toInt32)), (.int (((c1 >>> ((8 : Int32) &&& 31)).toInt8.toInt32).toInt8.toInt32))] : List Value) 1 (1 : Int32) (((c1 >>> ((0 : Int32) &&& 31)).toInt8.toInt32).toInt8.toInt32) (((c1 >>> ((8 : Int32) &&& 31)).toInt8.toInt32).toInt8.toInt32) T126.heap n0 z130 rfl (by decide) (by decide) rfl rfl p126_2 S6 S7 S8 O129) hZ (w_ hw 97 rfl) (w_ hw 71 rfl) (by decide) (by decide)) (g := (mkF m 32 #[.val (.ref b), .val (.int 0), .val (.int 2), .val (.ref a101), .val (.int 1), .val (.ref t127)] [(.int 1), (.ref t127)])) rfl (by rw [hml]; rfl) (argsL := [(.ref t127), (.int 1)]) (rest := []) (lenOf pd_71 rfl) rfl (by show 2 * 0 + _ ≤ _; exact Nat.le_of_eq rfl) (hb hby d_jdk_52_method_16_32) (fun _ _ => ⟨rfl, rfl, (by decide : 2 + 0 ≤ _), (by decide : 6 + 0 ≤ _)⟩)
    dsimp only [Pt.U, Pt.locs, Pt.cells, Pt.slots] at X131 l131 y131 z131 st131 hQ131
    subst l131 y131 z131
    obtain ⟨rfl, Nq131, e131_⟩ := hQ131
    have N131_ := Fr.app N126_ Nq131
    refine Fin.by (fun tt_ kk_ => st131 tt_ kk_) ?_
    have e131 := e131_
    refine Fin.by (fun tt_ kk_ => XS.sipush X131.here hx rfl (hb hby d_jdk_52_method_16_35) kk_) ?_
    show Fin _ _ _ _ _ _ _ (T131.setTop (mkF m 38 #[.val (.ref b), .val (.int 0), .val (.int 2), .val (.ref a101), .val (.int 1), .val (.ref t127)] [(.int 255), (.int (nar .char (StrChars.pairCh (((c1 >>> (0 &&& 31)).toInt8.toInt32).toInt8.toInt32) (((c1 >>> (8 &&& 31)).toInt8.toInt32).toInt8.toInt32))))]))
    refine Fin.by (fun tt_ kk_ => XS.icmpYes X131.here hx rfl (pc0 := 38) (pc' := 54) rfl (hb hby d_jdk_52_method_16_38) rfl (tlt (by rw [own_pw hb_1]; exact hx_1 : (255 : Int32) < (nar .char (StrChars.pairCh (((c1 >>> ((0 : Int32) &&& 31)).toInt8.toInt32).toInt8.toInt32) (((c1 >>> ((8 : Int32) &&& 31)).toInt8.toInt32).toInt8.toInt32))))).2.2.1 (by decide) (by decide) kk_) ?_
    refine Fin.by (fun tt_ kk_ => XS.aload X131.here hx rfl (hb hby d_jdk_52_method_16_54) rfl rfl kk_) ?_
    have kp132 : Keep h0 h101 [] := (Keep.refl h0 []).ext E101
    have kp133 : Keep h0 T106.heap [] := kp132.trans p106_0 (allS (Or.inr (Nat.le_trans (Nat.le_refl _) (Nat.le_of_eq g101.symm))) all0)
    have kp134 : Keep h0 T126.heap [] := kp133.trans p126_0 all0
    show Fin _ _ _ _ _ _ _ (T131.setTop (mkF m 56 #[.val (.ref b), .val (.int 0), .val (.int 2), .val (.ref a101), .val (.int 1), .val (.ref t127)] [(.ref t127)]))
    exact Fin.ret (v := some (.ref t127)) X131 (fun h => by rw [Bd.returns] at h; cases h) Bd.notSynchronized (by rw [e131]; exact ⟨t127, k128, (1 : Int32), (4 : Int32), [(.int (((c0 >>> ((0 : Int32) &&& 31)).toInt8.toInt32).toInt8.toInt32)), (.int (((c0 >>> ((8 : Int32) &&& 31)).toInt8.toInt32).toInt8.toInt32)), (.int (((c1 >>> ((0 : Int32) &&& 31)).toInt8.toInt32).toInt8.toInt32)), (.int (((c1 >>> ((8 : Int32) &&& 31)).toInt8.toInt32).toInt8.toInt32))], rfl, N131_, kp134, (Nat.le_trans (Nat.le_trans E101.1 p106_0.1) p126_1), p126_2, (Or.inr ⟨rfl, rfl, by simp only [StrChars.Road.wideBytes, own_raw_lo, own_raw_hi], ⟨c1, by simp, hx_1⟩⟩)⟩) (by decide) (by decide) (fun fs hr => retA X131 hx Bd.returns rfl rfl (hb hby d_jdk_52_method_16_56) hr)
def Q_cod_2_0 (Z : State) (t : Addr) (kt : ClassId) (vs : List Value) (h0 : Heap) (n0 : Nat) (vv_ : Option Value) (hh_ : Heap) (LL_ : List Loc) : Prop := vv_ = some (.int (nar .byte (0 : Int32))) ∧ Fr n0 LL_ ∧ hh_ = h0
set_option maxRecDepth 65536 in
set_option maxHeartbeats 40000000 in
theorem rm_cod_2_0 (l : Launch) (Z : State) (a0 : Array Value) (hw : ∀ d ∈ tables_1, d.before a0 Z = true) (ws : List Jvm.Cond) (t : Addr) (kt : ClassId) (vs : List Value) (h0 : Heap) (n0 : Nat) (Z0 : n0 ≤ h0.size) (A0 : Arv Z h0 t kt .byte (2 : Int32) vs (.int (0 : Int32))) :
    MetFree l (⟨"java/lang/StringUTF16", "coderFromArrayLen", "([BI)B"⟩ : MethodName) (head1 (Jvm.Cond.code (⟨"java/lang/StringUTF16", "coderFromArrayLen", "([BI)B"⟩ : MethodName) jdk_52_method_15_code 2 (some .byte) :: ws) ({ frames := 0, cells := 0, slots := 0, locals := 0 } : Room)) (fun aa_ U => aa_ = #[(.ref t), (.int (2 : Int32))] ∧ Z.Warmed39 U.vm ∧ U.heap = h0) (fun _ _ _ _ _ => True) (fun _ U o U' => ∃ vv_ LL_, o = .returned vv_ ∧ Q_cod_2_0 Z t kt vs h0 n0 vv_ U'.heap LL_ ∧ FrameEnd U o U' LL_ 0 0) := by
  refine MetFree.of_bodySF (plainFor_of_name pn_java_lang_StringUTF16) hisR ?_
  intro p e s m args below meth c s₁ Bd hml0 hP hK
  obtain ⟨rfl, hZ, hh⟩ := hP
  have hx := Bd.exec
  have hby := Bd.bytes
  have hml : c.maxLocals = 2 := hml0
  have hown : s.vm.findClass "java/lang/StringUTF16" = some m.cls := findClass_of_methodNamed Bd.named
  have hnm := (name_of_methodNamed Bd.named Bd.method).1
  have X0 : Stand p l e ({ frames := 0, cells := 0, slots := 0, locals := 0 } : Room) s m #[(.ref t), (.int (2 : Int32))] below meth c s₁ [] 0 0 := Stand.of_body Bd
  have e0 : s₁.heap = h0 := by rw [← hh, Bd.state]; rfl
  have N0 := Fr.nil n0
  have ef : entryFrame m #[(.ref t), (.int (2 : Int32))] 2 = mkF m 0 #[.val (.ref t), .val (.int (2 : Int32))] [] := by first | (simp [entryFrame, mkF, argsToLocals, Value.category]; done) | rfl
  refine Fin.start (Q := Q_cod_2_0 Z t kt vs h0 n0) ef ?_
  refine Fin.by (fun tt_ kk_ => XS.iloadN X0.here hx rfl (hb hby d_jdk_52_method_15_0) rfl (XS.aloadN X0.here hx rfl (hb hby d_jdk_52_method_15_1) rfl rfl kk_)) ?_
  obtain ⟨cl101, Ar101, q101, S101, N101, H101, G101⟩ := id A0
  refine Fin.by (fun tt_ kk_ => X0.arraylength hx (by rw [e0]; exact Ar101.1) (State.isArrayOf_alike hZ.alike Ar101.2.1) (g := (mkF m 2 #[.val (.ref t), .val (.int 2)] [(.ref t), (.int 2)])) rfl rfl (hb hby d_jdk_52_method_15_2) _ kk_) ?_
  rw [len_of S101 N101]
  refine Fin.by (fun tt_ kk_ => XS.isub X0.here hx rfl (hb hby d_jdk_52_method_15_3) rfl (XS.bipush X0.here hx rfl (hb hby d_jdk_52_method_15_4) (XS.iushr X0.here hx rfl (hb hby d_jdk_52_method_15_6) rfl (XS.i2b X0.here hx rfl (hb hby d_jdk_52_method_15_7) rfl kk_)))) ?_
  show Fin _ _ _ _ _ _ _ (s₁.setTop (mkF m 8 #[.val (.ref t), .val (.int 2)] [(.int 0)]))
  exact Fin.ret (v := some (.int (nar .byte (0 : Int32)))) X0 (fun h => by rw [Bd.returns] at h; cases h) Bd.notSynchronized (by rw [e0]; exact ⟨rfl, N0, rfl⟩) (by decide) (by decide) (fun fs hr => retN X0 hx (t := .byte) Bd.returns (by simp) (hb hby d_jdk_52_method_15_8) hr)
def Q_cod_2_1 (Z : State) (t : Addr) (kt : ClassId) (vs : List Value) (h0 : Heap) (n0 : Nat) (vv_ : Option Value) (hh_ : Heap) (LL_ : List Loc) : Prop := vv_ = some (.int (nar .byte (1 : Int32))) ∧ Fr n0 LL_ ∧ hh_ = h0
set_option maxRecDepth 65536 in
set_option maxHeartbeats 40000000 in
theorem rm_cod_2_1 (l : Launch) (Z : State) (a0 : Array Value) (hw : ∀ d ∈ tables_1, d.before a0 Z = true) (ws : List Jvm.Cond) (t : Addr) (kt : ClassId) (vs : List Value) (h0 : Heap) (n0 : Nat) (Z0 : n0 ≤ h0.size) (A0 : Arv Z h0 t kt .byte (4 : Int32) vs (.int (0 : Int32))) :
    MetFree l (⟨"java/lang/StringUTF16", "coderFromArrayLen", "([BI)B"⟩ : MethodName) (head1 (Jvm.Cond.code (⟨"java/lang/StringUTF16", "coderFromArrayLen", "([BI)B"⟩ : MethodName) jdk_52_method_15_code 2 (some .byte) :: ws) ({ frames := 0, cells := 0, slots := 0, locals := 0 } : Room)) (fun aa_ U => aa_ = #[(.ref t), (.int (2 : Int32))] ∧ Z.Warmed39 U.vm ∧ U.heap = h0) (fun _ _ _ _ _ => True) (fun _ U o U' => ∃ vv_ LL_, o = .returned vv_ ∧ Q_cod_2_1 Z t kt vs h0 n0 vv_ U'.heap LL_ ∧ FrameEnd U o U' LL_ 0 0) := by
  refine MetFree.of_bodySF (plainFor_of_name pn_java_lang_StringUTF16) hisR ?_
  intro p e s m args below meth c s₁ Bd hml0 hP hK
  obtain ⟨rfl, hZ, hh⟩ := hP
  have hx := Bd.exec
  have hby := Bd.bytes
  have hml : c.maxLocals = 2 := hml0
  have hown : s.vm.findClass "java/lang/StringUTF16" = some m.cls := findClass_of_methodNamed Bd.named
  have hnm := (name_of_methodNamed Bd.named Bd.method).1
  have X0 : Stand p l e ({ frames := 0, cells := 0, slots := 0, locals := 0 } : Room) s m #[(.ref t), (.int (2 : Int32))] below meth c s₁ [] 0 0 := Stand.of_body Bd
  have e0 : s₁.heap = h0 := by rw [← hh, Bd.state]; rfl
  have N0 := Fr.nil n0
  have ef : entryFrame m #[(.ref t), (.int (2 : Int32))] 2 = mkF m 0 #[.val (.ref t), .val (.int (2 : Int32))] [] := by first | (simp [entryFrame, mkF, argsToLocals, Value.category]; done) | rfl
  refine Fin.start (Q := Q_cod_2_1 Z t kt vs h0 n0) ef ?_
  refine Fin.by (fun tt_ kk_ => XS.iloadN X0.here hx rfl (hb hby d_jdk_52_method_15_0) rfl (XS.aloadN X0.here hx rfl (hb hby d_jdk_52_method_15_1) rfl rfl kk_)) ?_
  obtain ⟨cl101, Ar101, q101, S101, N101, H101, G101⟩ := id A0
  refine Fin.by (fun tt_ kk_ => X0.arraylength hx (by rw [e0]; exact Ar101.1) (State.isArrayOf_alike hZ.alike Ar101.2.1) (g := (mkF m 2 #[.val (.ref t), .val (.int 2)] [(.ref t), (.int 2)])) rfl rfl (hb hby d_jdk_52_method_15_2) _ kk_) ?_
  rw [len_of S101 N101]
  refine Fin.by (fun tt_ kk_ => XS.isub X0.here hx rfl (hb hby d_jdk_52_method_15_3) rfl (XS.bipush X0.here hx rfl (hb hby d_jdk_52_method_15_4) (XS.iushr X0.here hx rfl (hb hby d_jdk_52_method_15_6) rfl (XS.i2b X0.here hx rfl (hb hby d_jdk_52_method_15_7) rfl kk_)))) ?_
  show Fin _ _ _ _ _ _ _ (s₁.setTop (mkF m 8 #[.val (.ref t), .val (.int 2)] [(.int 1)]))
  exact Fin.ret (v := some (.int (nar .byte (1 : Int32)))) X0 (fun h => by rw [Bd.returns] at h; cases h) Bd.notSynchronized (by rw [e0]; exact ⟨rfl, N0, rfl⟩) (by decide) (by decide) (fun fs hr => retN X0 hx (t := .byte) Bd.returns (by simp) (hb hby d_jdk_52_method_15_8) hr)
def Q_n4_2 (Z : State) (a : Addr) (b : Addr) (kb : ClassId) (c0 : Int32) (c1 : Int32) (G1 : Int32) (h0 : Heap) (n0 : Nat) (vv_ : Option Value) (hh_ : Heap) (LL_ : List Loc) : Prop := ∃ (t : Addr), ∃ (k : ClassId), ∃ (cd : Int32), ∃ (N2 : Int32), ∃ (vs : List Value), vv_ = none ∧ Fr n0 LL_ ∧ Keep h0 hh_ [a] ∧ h0.size ≤ t ∧ Exa Z hh_ a "java/lang/String" ∧ Fld Z hh_ a "java/lang/String" "value" "[B" (.ref t) ∧ Fld Z hh_ a "java/lang/String" "coder" "B" (.int cd) ∧ Arv Z hh_ t k .byte N2 vs (.int (0 : Int32)) ∧ (StrChars.Road.CodA ([c0, c1] : List Int32) cd N2 vs)
set_option maxRecDepth 65536 in
set_option maxHeartbeats 40000000 in
theorem rm_n4_2 (l : Launch) (Z : State) (a0 : Array Value) (hw : ∀ d ∈ tables_1, d.before a0 Z = true) (ws : List Jvm.Cond) (a : Addr) (b : Addr) (kb : ClassId) (c0 : Int32) (c1 : Int32) (G1 : Int32) (h0 : Heap) (n0 : Nat) (Z0 : n0 ≤ h0.size) (E0 : Exa Z h0 a "java/lang/String") (F0 : Fld Z h0 a "java/lang/String" "value" "[B" .null) (F1 : Fld Z h0 a "java/lang/String" "coder" "B" (.int (0 : Int32))) (ga : n0 ≤ a) (Ab : Arv Z h0 b kb .char (2 : Int32) [(.int c0), (.int c1)] (.int (0 : Int32))) (hb_0 : ¬ c0 < 0 ∧ ¬ (65535 : Int32) < c0) (hb_1 : ¬ c1 < 0 ∧ ¬ (65535 : Int32) < c1) (S1 : Sta Z Z.heap "java/lang/String" "COMPACT_STRINGS" "Z" (.int G1)) (P1 : ¬ G1 = 0) (S6 : Sta Z Z.heap "java/lang/StringUTF16" "$assertionsDisabled" "Z" (.int (1 : Int32))) (S7 : Sta Z Z.heap "java/lang/StringUTF16" "HI_BYTE_SHIFT" "I" (.int (0 : Int32))) (S8 : Sta Z Z.heap "java/lang/StringUTF16" "LO_BYTE_SHIFT" "I" (.int (8 : Int32))) (OL : Old Z n0 h0) :
    MetFree l (⟨"java/lang/String", "<init>", "([CIILjava/lang/Void;)V"⟩ : MethodName) (head1 (Jvm.Cond.code (⟨"java/lang/String", "<init>", "([CIILjava/lang/Void;)V"⟩ : MethodName) jdk_42_method_149_code 6 none :: ws) ({ frames := 4, cells := 2, slots := 6, locals := 57 } : Room)) (fun aa_ U => aa_ = #[(.ref a), (.ref b), (.int (0 : Int32)), (.int (2 : Int32)), .null] ∧ Z.Warmed39 U.vm ∧ U.heap = h0) (fun _ _ _ _ _ => True) (fun _ U o U' => ∃ vv_ LL_, o = .returned vv_ ∧ Q_n4_2 Z a b kb c0 c1 G1 h0 n0 vv_ U'.heap LL_ ∧ FrameEnd U o U' LL_ 2 6) := by
  refine MetFree.of_bodySF (plainFor_of_name pn_java_lang_String) hisR ?_
  intro p e s m args below meth c s₁ Bd hml0 hP hK
  obtain ⟨rfl, hZ, hh⟩ := hP
  have hx := Bd.exec
  have hby := Bd.bytes
  have hml : c.maxLocals = 6 := hml0
  have hown : s.vm.findClass "java/lang/String" = some m.cls := findClass_of_methodNamed Bd.named
  have hnm := (name_of_methodNamed Bd.named Bd.method).1
  have X0 : Stand p l e ({ frames := 4, cells := 2, slots := 6, locals := 57 } : Room) s m #[(.ref a), (.ref b), (.int (0 : Int32)), (.int (2 : Int32)), .null] below meth c s₁ [] 0 0 := Stand.of_body Bd
  have e0 : s₁.heap = h0 := by rw [← hh, Bd.state]; rfl
  have N0 := Fr.nil n0
  have ef : entryFrame m #[(.ref a), (.ref b), (.int (0 : Int32)), (.int (2 : Int32)), .null] 6 = mkF m 0 #[.val (.ref a), .val (.ref b), .val (.int (0 : Int32)), .val (.int (2 : Int32)), .val .null, .unset] [] := by first | (simp [entryFrame, mkF, argsToLocals, Value.category]; done) | rfl
  refine Fin.start (Q := Q_n4_2 Z a b kb c0 c1 G1 h0 n0) ef ?_
  refine Fin.by (fun tt_ kk_ => XS.aloadN X0.here hx rfl (hb hby d_jdk_42_method_149_0) rfl rfl kk_) ?_
  obtain ⟨T101, X101, e101, st101⟩ := initO X0 hx hZ hown (w_ hw 17 rfl) (w_ hw 18 rfl) (w_ hw 19 rfl) e0 (g := (mkF m 1 #[.val (.ref a), .val (.ref b), .val (.int 0), .val (.int 2), .val .null, .unset] [(.ref a)])) rfl (by rw [hml]; rfl) rfl (hb hby d_jdk_42_method_149_1) (by decide) (W := 0) (by show 2 * 0 + _ ≤ _; exact Nat.le_of_eq rfl) (by decide)
  refine Fin.by (fun tt_ kk_ => st101 tt_ kk_) ?_
  refine Fin.by (fun tt_ kk_ => XS.iloadN X101.here hx rfl (hb hby d_jdk_42_method_149_4) rfl kk_) ?_
  show Fin _ _ _ _ _ _ _ (T101.setTop (mkF m 5 #[.val (.ref a), .val (.ref b), .val (.int 0), .val (.int 2), .val .null, .unset] [(.int 2)]))
  refine Fin.by (fun tt_ kk_ => XS.ifYes X101.here hx rfl (pc0 := 5) (pc' := 27) rfl (hb hby d_jdk_42_method_149_5) rfl ((if0 _ _).trans (feq (by decide : ¬ (2 : Int32) = (0 : Int32))).2) (by decide) (by decide) kk_) ?_
  obtain ⟨T102, X102, e102, st102⟩ := getS X101 hx hZ (host := "") hown (w_ hw 68 rfl) Via.refl e101 (S1.ext OL.2) (g := (mkF m 27 #[.val (.ref a), .val (.ref b), .val (.int 0), .val (.int 2), .val .null, .unset] [])) rfl (hb hby d_jdk_42_method_149_27)
  refine Fin.by (fun tt_ kk_ => st102 tt_ kk_) ?_
  show Fin _ _ _ _ _ _ _ (T102.setTop (mkF m 30 #[.val (.ref a), .val (.ref b), .val (.int 0), .val (.int 2), .val .null, .unset] [(.int G1)]))
  refine Fin.by (fun tt_ kk_ => XS.ifNo X102.here hx rfl (hb hby d_jdk_42_method_149_30) rfl ((if0 _ _).trans (feq (P1 : ¬ G1 = (0 : Int32))).1) kk_) ?_
  refine Fin.by (fun tt_ kk_ => XS.aloadN X102.here hx rfl (hb hby d_jdk_42_method_149_33) rfl rfl (XS.iloadN X102.here hx rfl (hb hby d_jdk_42_method_149_34) rfl (XS.iloadN X102.here hx rfl (hb hby d_jdk_42_method_149_35) rfl kk_))) ?_
  obtain ⟨v103, _, ⟨T103, L103, k103, n103⟩, -, X103, ⟨Lc103, hQ103, l103, y103, z103⟩, st103⟩ := Jvm.LawKit.callS X102 hx (y := y_13) hown (mvT hZ (w_ hw 69 rfl)) (mvT hZ (w_ hw 70 rfl)) (mvT hZ (w_ hw 71 rfl)) (mvT hZ (w_ hw 72 rfl)) (by decide) (backOf (W := 0) (rm_c3_2 l Z a0 hw [] b kb c0 c1 h0 n0 Z0 Ab hb_0 hb_1 S6 S7 S8 OL) hZ (w_ hw 72 rfl) (w_ hw 71 rfl) (by decide) (by decide)) (g := (mkF m 36 #[.val (.ref a), .val (.ref b), .val (.int 0), .val (.int 2), .val .null, .unset] [(.int 2), (.int 0), (.ref b)])) rfl (by rw [hml]; rfl) (argsL := [(.ref b), (.int 0), (.int 2)]) (rest := []) (lenOf pd_198 rfl) rfl (by show 2 * 0 + _ ≤ _; exact Nat.le_of_eq rfl) (hb hby d_jdk_42_method_149_36) (fun _ _ => ⟨rfl, e102, (by decide : 0 + 2 ≤ _), (by decide : 0 + 6 ≤ _)⟩)
  dsimp only [Pt.U, Pt.locs, Pt.cells, Pt.slots] at X103 l103 y103 z103 st103 hQ103
  subst l103 y103 z103
  obtain ⟨t104, k105, cd106, N107, vs108, rfl, Nq103, p103_0, p103_1, p103_2, p103_3⟩ := hQ103
  have N103_ := Fr.app N0 Nq103
  refine Fin.by (fun tt_ kk_ => st103 tt_ kk_) ?_
  rcases id p103_3 with ⟨hcd, hN2, hvs, -⟩ | ⟨hcd, hN2, hvs, -⟩
  · have hN2' : N107 = (2 : Int32) := hN2
    clear hN2
    subst hcd
    subst hN2'
    refine Fin.by (fun tt_ kk_ => XS.astore X103.here hx rfl (hb hby d_jdk_42_method_149_39) rfl rfl (l' := #[.val (.ref a), .val (.ref b), .val (.int 0), .val (.int 2), .val .null, .val (.ref t104)]) rfl (XS.aloadN X103.here hx rfl (hb hby d_jdk_42_method_149_41) rfl rfl (XS.aload X103.here hx rfl (hb hby d_jdk_42_method_149_42) rfl rfl (XS.iloadN X103.here hx rfl (hb hby d_jdk_42_method_149_44) rfl kk_)))) ?_
    have z109 : n0 ≤ T103.heap.size := Nat.le_trans Z0 p103_0.1
    obtain ⟨v110, _, ⟨T110, L110, k110, n110⟩, -, X110, ⟨Lc110, hQ110, l110, y110, z110⟩, st110⟩ := Jvm.LawKit.callS X103 hx (y := y_14) hown (mvT hZ (w_ hw 76 rfl)) (mvT hZ (w_ hw 77 rfl)) (mvT hZ (w_ hw 71 rfl)) (mvT hZ (w_ hw 78 rfl)) (by decide) (backOf (W := 1) (rm_cod_2_0 l Z a0 hw [] t104 k105 (vs108 : List Value) T103.heap n0 z109 p103_2) hZ (w_ hw 78 rfl) (w_ hw 71 rfl) (by decide) (by decide)) (g := (mkF m 45 #[.val (.ref a), .val (.ref b), .val (.int 0), .val (.int 2), .val .null, .val (.ref t104)] [(.int 2), (.ref t104), (.ref a)])) rfl (by rw [hml]; rfl) (argsL := [(.ref t104), (.int 2)]) (rest := [(.ref a)]) (lenOf pd_230 rfl) rfl (by show 2 * 0 + _ ≤ _; exact Nat.le_of_eq rfl) (hb hby d_jdk_42_method_149_45) (fun _ _ => ⟨rfl, rfl, (by decide : 2 + 0 ≤ _), (by decide : 6 + 0 ≤ _)⟩)
    dsimp only [Pt.U, Pt.locs, Pt.cells, Pt.slots] at X110 l110 y110 z110 st110 hQ110
    subst l110 y110 z110
    obtain ⟨rfl, Nq110, e110_⟩ := hQ110
    have N110_ := Fr.app N103_ Nq110
    refine Fin.by (fun tt_ kk_ => st110 tt_ kk_) ?_
    have e110 := e110_
    have F111 : Fld Z T103.heap a "java/lang/String" "coder" "B" (.int (0 : Int32)) := (F1.keep p103_0 nin0)
    have E112 : Exa Z T103.heap a "java/lang/String" := (E0.keep p103_0)
    obtain ⟨T113, h113, X113, e113, W113, st113⟩ := putFN X110 hx hZ hown (w_ hw 27 rfl) Via.refl e110 F111 E112 (Or.inr ⟨(w_ hw 23 rfl), rfl, hnm⟩) (w_ hw 7 rfl) (ty := .byte) (v' := .int (0 : Int32)) (by decide) rfl rfl (g := (mkF m 48 #[.val (.ref a), .val (.ref b), .val (.int 0), .val (.int 2), .val .null, .val (.ref t104)] [(.int (nar .byte 0)), (.ref a)])) rfl rfl (hb hby d_jdk_42_method_149_48)
    refine Fin.by (fun tt_ kk_ => st113 tt_ kk_) ?_
    have N113_ := Fr.snoc X113 N110_ ga
    refine Fin.by (fun tt_ kk_ => XS.aloadN X113.here hx rfl (hb hby d_jdk_42_method_149_51) rfl rfl (XS.aload X113.here hx rfl (hb hby d_jdk_42_method_149_52) rfl rfl kk_)) ?_
    have F114 : Fld Z h113 a "java/lang/String" "value" "[B" .null := ((F0.keep p103_0 nin0).other W113 (Or.inr (slot_ne (Or.inr (w_ hw 22 rfl)) (Or.inr (w_ hw 23 rfl)) (by decide) (t := (.array .byte)) (t' := .byte) (by decide) (by decide))))
    have E115 : Exa Z h113 a "java/lang/String" := (E112.wr W113)
    obtain ⟨T116, h116, X116, e116, W116, st116⟩ := putF X113 hx hZ hown (host := "") (Or.inl (w_ hw 26 rfl)) Via.refl e113 F114 E115 (Or.inr ⟨(w_ hw 22 rfl), rfl, hnm⟩) (w_ hw 7 rfl) (ty := (.array .byte)) (by decide) rfl rfl (g := (mkF m 54 #[.val (.ref a), .val (.ref b), .val (.int 0), .val (.int 2), .val .null, .val (.ref t104)] [(.ref t104), (.ref a)])) rfl rfl (hb hby d_jdk_42_method_149_54)
    refine Fin.by (fun tt_ kk_ => st116 tt_ kk_) ?_
    have N116_ := Fr.snoc X116 N113_ ga
    have kp117 : Keep h0 T103.heap [a] := (Keep.refl h0 [a]).trans p103_0 all0
    have kp118 : Keep h0 h113 [a] := kp117.wr W113 (Or.inl (List.mem_of_getElem? (i := 0) rfl))
    have kp119 : Keep h0 h116 [a] := kp118.wr W116 (Or.inl (List.mem_of_getElem? (i := 0) rfl))
    have E120 : Exa Z h116 a "java/lang/String" := (E115.wr W116)
    have F121 : Fld Z h116 a "java/lang/String" "coder" "B" (.int (0 : Int32)) := ((F111.same W113).other W116 (Or.inr (slot_ne (Or.inr (w_ hw 23 rfl)) (Or.inr (w_ hw 22 rfl)) (by decide) (t := .byte) (t' := (.array .byte)) (by decide) (by decide))))
    have ne122 : a ≠ t104 := Nat.ne_of_lt (Nat.lt_of_lt_of_le E0.lt p103_1)
    have A123 : Arv Z h116 t104 k105 .byte (2 : Int32) vs108 (.int (0 : Int32)) := ((p103_2.other W113 (Ne.symm ne122)).other W116 (Ne.symm ne122))
    show Fin _ _ _ _ _ _ _ (T116.setTop (mkF m 57 #[.val (.ref a), .val (.ref b), .val (.int 0), .val (.int 2), .val .null, .val (.ref t104)] []))
    exact Fin.ret (v := none) X116 (fun _ => rfl) Bd.notSynchronized (by rw [e116]; exact ⟨t104, k105, (0 : Int32), (2 : Int32), vs108, rfl, N116_, kp119, (Nat.le_trans (Nat.le_refl _) p103_1), E120, (F114.same W116), F121, A123, p103_3⟩) (by decide) (by decide) (fun fs hr => X116.returnOut hx Bd.returns (hb hby d_jdk_42_method_149_57) hr)
  · have hN2' : N107 = (4 : Int32) := hN2
    clear hN2
    subst hcd
    subst hN2'
    refine Fin.by (fun tt_ kk_ => XS.astore X103.here hx rfl (hb hby d_jdk_42_method_149_39) rfl rfl (l' := #[.val (.ref a), .val (.ref b), .val (.int 0), .val (.int 2), .val .null, .val (.ref t104)]) rfl (XS.aloadN X103.here hx rfl (hb hby d_jdk_42_method_149_41) rfl rfl (XS.aload X103.here hx rfl (hb hby d_jdk_42_method_149_42) rfl rfl (XS.iloadN X103.here hx rfl (hb hby d_jdk_42_method_149_44) rfl kk_)))) ?_
    have z124 : n0 ≤ T103.heap.size := Nat.le_trans Z0 p103_0.1
    obtain ⟨v125, _, ⟨T125, L125, k125, n125⟩, -, X125, ⟨Lc125, hQ125, l125, y125, z125⟩, st125⟩ := Jvm.LawKit.callS X103 hx (y := y_14) hown (mvT hZ (w_ hw 76 rfl)) (mvT hZ (w_ hw 77 rfl)) (mvT hZ (w_ hw 71 rfl)) (mvT hZ (w_ hw 78 rfl)) (by decide) (backOf (W := 1) (rm_cod_2_1 l Z a0 hw [] t104 k105 (vs108 : List Value) T103.heap n0 z124 p103_2) hZ (w_ hw 78 rfl) (w_ hw 71 rfl) (by decide) (by decide)) (g := (mkF m 45 #[.val (.ref a), .val (.ref b), .val (.int 0), .val (.int 2), .val .null, .val (.ref t104)] [(.int 2), (.ref t104), (.ref a)])) rfl (by rw [hml]; rfl) (argsL := [(.ref t104), (.int 2)]) (rest := [(.ref a)]) (lenOf pd_230 rfl) rfl (by show 2 * 0 + _ ≤ _; exact Nat.le_of_eq rfl) (hb hby d_jdk_42_method_149_45) (fun _ _ => ⟨rfl, rfl, (by decide : 2 + 0 ≤ _), (by decide : 6 + 0 ≤ _)⟩)
    dsimp only [Pt.U, Pt.locs, Pt.cells, Pt.slots] at X125 l125 y125 z125 st125 hQ125
    subst l125 y125 z125
    obtain ⟨rfl, Nq125, e125_⟩ := hQ125
    have N125_ := Fr.app N103_ Nq125
    refine Fin.by (fun tt_ kk_ => st125 tt_ kk_) ?_
    have e125 := e125_
    have F126 : Fld Z T103.heap a "java/lang/String" "coder" "B" (.int (0 : Int32)) := (F1.keep p103_0 nin0)
    have E127 : Exa Z T103.heap a "java/lang/String" := (E0.keep p103_0)
    obtain ⟨T128, h128, X128, e128, W128, st128⟩ := putFN X125 hx hZ hown (w_ hw 27 rfl) Via.refl e125 F126 E127 (Or.inr ⟨(w_ hw 23 rfl), rfl, hnm⟩) (w_ hw 7 rfl) (ty := .byte) (v' := .int (1 : Int32)) (by decide) rfl rfl (g := (mkF m 48 #[.val (.ref a), .val (.ref b), .val (.int 0), .val (.int 2), .val .null, .val (.ref t104)] [(.int (nar .byte 1)), (.ref a)])) rfl rfl (hb hby d_jdk_42_method_149_48)
    refine Fin.by (fun tt_ kk_ => st128 tt_ kk_) ?_
    have N128_ := Fr.snoc X128 N125_ ga
    refine Fin.by (fun tt_ kk_ => XS.aloadN X128.here hx rfl (hb hby d_jdk_42_method_149_51) rfl rfl (XS.aload X128.here hx rfl (hb hby d_jdk_42_method_149_52) rfl rfl kk_)) ?_
    have F129 : Fld Z h128 a "java/lang/String" "value" "[B" .null := ((F0.keep p103_0 nin0).other W128 (Or.inr (slot_ne (Or.inr (w_ hw 22 rfl)) (Or.inr (w_ hw 23 rfl)) (by decide) (t := (.array .byte)) (t' := .byte) (by decide) (by decide))))
    have E130 : Exa Z h128 a "java/lang/String" := (E127.wr W128)
    obtain ⟨T131, h131, X131, e131, W131, st131⟩ := putF X128 hx hZ hown (host := "") (Or.inl (w_ hw 26 rfl)) Via.refl e128 F129 E130 (Or.inr ⟨(w_ hw 22 rfl), rfl, hnm⟩) (w_ hw 7 rfl) (ty := (.array .byte)) (by decide) rfl rfl (g := (mkF m 54 #[.val (.ref a), .val (.ref b), .val (.int 0), .val (.int 2), .val .null, .val (.ref t104)] [(.ref t104), (.ref a)])) rfl rfl (hb hby d_jdk_42_method_149_54)
    refine Fin.by (fun tt_ kk_ => st131 tt_ kk_) ?_
    have N131_ := Fr.snoc X131 N128_ ga
    have kp132 : Keep h0 T103.heap [a] := (Keep.refl h0 [a]).trans p103_0 all0
    have kp133 : Keep h0 h128 [a] := kp132.wr W128 (Or.inl (List.mem_of_getElem? (i := 0) rfl))
    have kp134 : Keep h0 h131 [a] := kp133.wr W131 (Or.inl (List.mem_of_getElem? (i := 0) rfl))
    have E135 : Exa Z h131 a "java/lang/String" := (E130.wr W131)
    have F136 : Fld Z h131 a "java/lang/String" "coder" "B" (.int (1 : Int32)) := ((F126.same W128).other W131 (Or.inr (slot_ne (Or.inr (w_ hw 23 rfl)) (Or.inr (w_ hw 22 rfl)) (by decide) (t := .byte) (t' := (.array .byte)) (by decide) (by decide))))
    have ne137 : a ≠ t104 := Nat.ne_of_lt (Nat.lt_of_lt_of_le E0.lt p103_1)
    have A138 : Arv Z h131 t104 k105 .byte (4 : Int32) vs108 (.int (0 : Int32)) := ((p103_2.other W128 (Ne.symm ne137)).other W131 (Ne.symm ne137))
    show Fin _ _ _ _ _ _ _ (T131.setTop (mkF m 57 #[.val (.ref a), .val (.ref b), .val (.int 0), .val (.int 2), .val .null, .val (.ref t104)] []))
    exact Fin.ret (v := none) X131 (fun _ => rfl) Bd.notSynchronized (by rw [e131]; exact ⟨t104, k105, (1 : Int32), (4 : Int32), vs108, rfl, N131_, kp134, (Nat.le_trans (Nat.le_refl _) p103_1), E135, (F129.same W131), F136, A138, p103_3⟩) (by decide) (by decide) (fun fs hr => X131.returnOut hx Bd.returns (hb hby d_jdk_42_method_149_57) hr)
def Q_n1_2 (Z : State) (a : Addr) (b : Addr) (kb : ClassId) (c0 : Int32) (c1 : Int32) (G1 : Int32) (h0 : Heap) (n0 : Nat) (vv_ : Option Value) (hh_ : Heap) (LL_ : List Loc) : Prop := ∃ (t : Addr), ∃ (k : ClassId), ∃ (cd : Int32), ∃ (N2 : Int32), ∃ (vs : List Value), vv_ = none ∧ Fr n0 LL_ ∧ Keep h0 hh_ [a] ∧ h0.size ≤ t ∧ Exa Z hh_ a "java/lang/String" ∧ Fld Z hh_ a "java/lang/String" "value" "[B" (.ref t) ∧ Fld Z hh_ a "java/lang/String" "coder" "B" (.int cd) ∧ Arv Z hh_ t k .byte N2 vs (.int (0 : Int32)) ∧ (StrChars.Road.CodA ([c0, c1] : List Int32) cd N2 vs)
set_option maxRecDepth 65536 in
set_option maxHeartbeats 40000000 in
theorem rm_n1_2 (l : Launch) (Z : State) (a0 : Array Value) (hw : ∀ d ∈ tables_1, d.before a0 Z = true) (ws : List Jvm.Cond) (a : Addr) (b : Addr) (kb : ClassId) (c0 : Int32) (c1 : Int32) (G1 : Int32) (h0 : Heap) (n0 : Nat) (Z0 : n0 ≤ h0.size) (E0 : Exa Z h0 a "java/lang/String") (F0 : Fld Z h0 a "java/lang/String" "value" "[B" .null) (F1 : Fld Z h0 a "java/lang/String" "coder" "B" (.int (0 : Int32))) (ga : n0 ≤ a) (Ab : Arv Z h0 b kb .char (2 : Int32) [(.int c0), (.int c1)] (.int (0 : Int32))) (hb_0 : ¬ c0 < 0 ∧ ¬ (65535 : Int32) < c0) (hb_1 : ¬ c1 < 0 ∧ ¬ (65535 : Int32) < c1) (S1 : Sta Z Z.heap "java/lang/String" "COMPACT_STRINGS" "Z" (.int G1)) (P1 : ¬ G1 = 0) (S6 : Sta Z Z.heap "java/lang/StringUTF16" "$assertionsDisabled" "Z" (.int (1 : Int32))) (S7 : Sta Z Z.heap "java/lang/StringUTF16" "HI_BYTE_SHIFT" "I" (.int (0 : Int32))) (S8 : Sta Z Z.heap "java/lang/StringUTF16" "LO_BYTE_SHIFT" "I" (.int (8 : Int32))) (OL : Old Z n0 h0) :
    MetFree l (⟨"java/lang/String", "<init>", "([C)V"⟩ : MethodName) (head1 (Jvm.Cond.code (⟨"java/lang/String", "<init>", "([C)V"⟩ : MethodName) jdk_42_method_3_code 2 none :: ws) ({ frames := 5, cells := 2, slots := 6, locals := 74 } : Room)) (fun aa_ U => aa_ = #[(.ref a), (.ref b)] ∧ Z.Warmed39 U.vm ∧ U.heap = h0) (fun _ _ _ _ _ => True) (fun _ U o U' => ∃ vv_ LL_, o = .returned vv_ ∧ Q_n1_2 Z a b kb c0 c1 G1 h0 n0 vv_ U'.heap LL_ ∧ FrameEnd U o U' LL_ 2 6) := by
  refine MetFree.of_bodySF (plainFor_of_name pn_java_lang_String) hisR ?_
  intro p e s m args below meth c s₁ Bd hml0 hP hK
  obtain ⟨rfl, hZ, hh⟩ := hP
  have hx := Bd.exec
  have hby := Bd.bytes
  have hml : c.maxLocals = 2 := hml0
  have hown : s.vm.findClass "java/lang/String" = some m.cls := findClass_of_methodNamed Bd.named
  have hnm := (name_of_methodNamed Bd.named Bd.method).1
  have X0 : Stand p l e ({ frames := 5, cells := 2, slots := 6, locals := 74 } : Room) s m #[(.ref a), (.ref b)] below meth c s₁ [] 0 0 := Stand.of_body Bd
  have e0 : s₁.heap = h0 := by rw [← hh, Bd.state]; rfl
  have N0 := Fr.nil n0
  have ef : entryFrame m #[(.ref a), (.ref b)] 2 = mkF m 0 #[.val (.ref a), .val (.ref b)] [] := by first | (simp [entryFrame, mkF, argsToLocals, Value.category]; done) | rfl
  refine Fin.start (Q := Q_n1_2 Z a b kb c0 c1 G1 h0 n0) ef ?_
  refine Fin.by (fun tt_ kk_ => XS.aloadN X0.here hx rfl (hb hby d_jdk_42_method_3_0) rfl rfl (XS.aloadN X0.here hx rfl (hb hby d_jdk_42_method_3_1) rfl rfl (XS.iconst X0.here hx rfl (hb hby d_jdk_42_method_3_2) (XS.aloadN X0.here hx rfl (hb hby d_jdk_42_method_3_3) rfl rfl kk_)))) ?_
  obtain ⟨cl101, Ar101, q101, S101, N101, H101, G101⟩ := id Ab
  refine Fin.by (fun tt_ kk_ => X0.arraylength hx (by rw [e0]; exact Ar101.1) (State.isArrayOf_alike hZ.alike Ar101.2.1) (g := (mkF m 4 #[.val (.ref a), .val (.ref b)] [(.ref b), (.int 0), (.ref b), (.ref a)])) rfl rfl (hb hby d_jdk_42_method_3_4) _ kk_) ?_
  rw [len_of S101 N101]
  refine Fin.by (fun tt_ kk_ => XS.aconstNull X0.here hx rfl (hb hby d_jdk_42_method_3_5) kk_) ?_
  obtain ⟨v102, _, ⟨T102, L102, k102, n102⟩, -, X102, ⟨Lc102, hQ102, l102, y102, z102⟩, st102⟩ := X0.specialBack hx (y := y_15) rfl hown (mvT hZ (w_ hw 13 rfl)) (mvT hZ (w_ hw 14 rfl)) (mvT hZ (w_ hw 16 rfl)) (by decide) (backOf (W := 0) (rm_n4_2 l Z a0 hw [] a b kb c0 c1 G1 h0 n0 Z0 E0 F0 F1 ga Ab hb_0 hb_1 S1 P1 S6 S7 S8 OL) hZ (w_ hw 16 rfl) (w_ hw 8 rfl) (by decide) (by decide)) (g := (mkF m 6 #[.val (.ref a), .val (.ref b)] [.null, (.int 2), (.int 0), (.ref b), (.ref a)])) rfl (by rw [hml]; rfl) (Steps.refl _) (a := a) (argsL := [(.ref b), (.int 0), (.int 2), .null]) (rest := []) (lenOf pd_243 rfl) rfl (by show 2 * 0 + _ ≤ _; exact Nat.le_of_eq rfl) (hb hby d_jdk_42_method_3_6) (fun _ _ => ⟨rfl, e0, (by decide : 0 + 2 ≤ _), (by decide : 0 + 6 ≤ _)⟩)
  dsimp only [Pt.U, Pt.locs, Pt.cells, Pt.slots] at X102 l102 y102 z102 st102 hQ102
  subst l102 y102 z102
  obtain ⟨t103, k104, cd105, N106, vs107, rfl, Nq102, p102_0, p102_1, p102_2, p102_3, p102_4, p102_5, p102_6⟩ := hQ102
  have N102_ := Fr.app N0 Nq102
  refine Fin.byS st102 ?_
  have kp108 : Keep h0 T102.heap [a] := (Keep.refl h0 [a]).trans p102_0 (allS (Or.inl (List.mem_of_getElem? (i := 0) rfl)) all0)
  show Fin _ _ _ _ _ _ _ (T102.setTop (mkF m 9 #[.val (.ref a), .val (.ref b)] []))
  exact Fin.ret (v := none) X102 (fun _ => rfl) Bd.notSynchronized (⟨t103, k104, cd105, N106, vs107, rfl, N102_, kp108, (Nat.le_trans (Nat.le_refl _) p102_1), p102_2, p102_3, p102_4, p102_5, p102_6⟩) (by decide) (by decide) (fun fs hr => X102.returnOut hx Bd.returns (hb hby d_jdk_42_method_3_9) hr)
def Q_c5_3 (Z : State) (b : Addr) (kb : ClassId) (d : Addr) (kd : ClassId) (c0 : Int32) (c1 : Int32) (c2 : Int32) (h0 : Heap) (n0 : Nat) (vv_ : Option Value) (hh_ : Heap) (LL_ : List Loc) : Prop := ∃ (r : Int32), ∃ (vs : List Value), vv_ = some (.int r) ∧ Fr n0 LL_ ∧ Keep h0 hh_ [d] ∧ Arv Z hh_ d kd .byte (3 : Int32) vs (.int (0 : Int32)) ∧ ((r = (3 : Int32) ∧ vs = [(.int ((c0.toInt8.toInt32).toInt8.toInt32)), (.int ((c1.toInt8.toInt32).toInt8.toInt32)), (.int ((c2.toInt8.toInt32).toInt8.toInt32))] ∧ ¬ (255 : Int32) < c0 ∧ ¬ (255 : Int32) < c1 ∧ ¬ (255 : Int32) < c2) ∨ (r = (0 : Int32) ∧ (255 : Int32) < c0) ∨ (r = (1 : Int32) ∧ (255 : Int32) < c1) ∨ (r = (2 : Int32) ∧ (255 : Int32) < c2))
set_option maxRecDepth 65536 in
set_option maxHeartbeats 40000000 in
theorem rm_c5_3 (l : Launch) (Z : State) (a0 : Array Value) (hw : ∀ d ∈ tables_1, d.before a0 Z = true) (ws : List Jvm.Cond) (b : Addr) (kb : ClassId) (d : Addr) (kd : ClassId) (c0 : Int32) (c1 : Int32) (c2 : Int32) (h0 : Heap) (n0 : Nat) (Z0 : n0 ≤ h0.size) (Ab : Arv Z h0 b kb .char (3 : Int32) [(.int c0), (.int c1), (.int c2)] (.int (0 : Int32))) (Ad : Arv Z h0 d kd .byte (3 : Int32) [(.int (0 : Int32)), (.int (0 : Int32)), (.int (0 : Int32))] (.int (0 : Int32))) (gd : n0 ≤ d) (nbd : b ≠ d) :
    MetFree l (⟨"java/lang/StringUTF16", "compress", "([CI[BII)I"⟩ : MethodName) (head1 (Jvm.Cond.code (⟨"java/lang/StringUTF16", "compress", "([CI[BII)I"⟩ : MethodName) jdk_52_method_21_code 7 (some .int) :: ws) ({ frames := 0, cells := 0, slots := 0, locals := 0 } : Room)) (fun aa_ U => aa_ = #[(.ref b), (.int (0 : Int32)), (.ref d), (.int (0 : Int32)), (.int (3 : Int32))] ∧ Z.Warmed39 U.vm ∧ U.heap = h0) (fun _ _ _ _ _ => True) (fun _ U o U' => ∃ vv_ LL_, o = .returned vv_ ∧ Q_c5_3 Z b kb d kd c0 c1 c2 h0 n0 vv_ U'.heap LL_ ∧ FrameEnd U o U' LL_ 0 0) := by
  refine MetFree.of_bodySF (plainFor_of_name pn_java_lang_StringUTF16) hisR ?_
  intro p e s m args below meth c s₁ Bd hml0 hP hK
  obtain ⟨rfl, hZ, hh⟩ := hP
  have hx := Bd.exec
  have hby := Bd.bytes
  have hml : c.maxLocals = 7 := hml0
  have hown : s.vm.findClass "java/lang/StringUTF16" = some m.cls := findClass_of_methodNamed Bd.named
  have hnm := (name_of_methodNamed Bd.named Bd.method).1
  have X0 : Stand p l e ({ frames := 0, cells := 0, slots := 0, locals := 0 } : Room) s m #[(.ref b), (.int (0 : Int32)), (.ref d), (.int (0 : Int32)), (.int (3 : Int32))] below meth c s₁ [] 0 0 := Stand.of_body Bd
  have e0 : s₁.heap = h0 := by rw [← hh, Bd.state]; rfl
  have N0 := Fr.nil n0
  have ef : entryFrame m #[(.ref b), (.int (0 : Int32)), (.ref d), (.int (0 : Int32)), (.int (3 : Int32))] 7 = mkF m 0 #[.val (.ref b), .val (.int (0 : Int32)), .val (.ref d), .val (.int (0 : Int32)), .val (.int (3 : Int32)), .unset, .unset] [] := by first | (simp [entryFrame, mkF, argsToLocals, Value.category]; done) | rfl
  refine Fin.start (Q := Q_c5_3 Z b kb d kd c0 c1 c2 h0 n0) ef ?_
  refine Fin.by (fun tt_ kk_ => XS.iconst X0.here hx rfl (hb hby d_jdk_52_method_21_0) (XS.istore X0.here hx rfl (hb hby d_jdk_52_method_21_1) rfl (l' := #[.val (.ref b), .val (.int 0), .val (.ref d), .val (.int 0), .val (.int 3), .val (.int 0), .unset]) rfl (XS.iload X0.here hx rfl (hb hby d_jdk_52_method_21_3) rfl (XS.iload X0.here hx rfl (hb hby d_jdk_52_method_21_5) rfl kk_)))) ?_
  show Fin _ _ _ _ _ _ _ (s₁.setTop (mkF m 7 #[.val (.ref b), .val (.int 0), .val (.ref d), .val (.int 0), .val (.int 3), .val (.int 0), .unset] [(.int 3), (.int 0)]))
  refine Fin.by (fun tt_ kk_ => XS.icmpNo X0.here hx rfl (hb hby d_jdk_52_method_21_7) rfl (tlt (by decide : (0 : Int32) < (3 : Int32))).2.1 kk_) ?_
  refine Fin.by (fun tt_ kk_ => XS.aloadN X0.here hx rfl (hb hby d_jdk_52_method_21_10) rfl rfl (XS.iloadN X0.here hx rfl (hb hby d_jdk_52_method_21_11) rfl kk_)) ?_
  obtain ⟨cl101, Ar101, q101, S101, N101, H101, G101⟩ := id Ab
  have hin101 : ¬ ((0 : Int32) < 0 ∨ cl101.slots.size ≤ (0 : Int32).toNatClampNeg) := inb_of S101 ⟨by decide, by decide⟩
  refine Fin.by (fun tt_ kk_ => X0.caload hx (j := (0 : Int32)) (v := (.int c0)) (by rw [e0]; exact Ar101.1) (State.isArrayOf_alike hZ.alike Ar101.2.1) Ar101.2.2 hin101 (Has.at H101 hin101 rfl) (g := (mkF m 12 #[.val (.ref b), .val (.int 0), .val (.ref d), .val (.int 0), .val (.int 3), .val (.int 0), .unset] [(.int 0), (.ref b)])) rfl rfl (hb hby d_jdk_52_method_21_12) _ kk_) ?_
  refine Fin.by (fun tt_ kk_ => XS.istore X0.here hx rfl (hb hby d_jdk_52_method_21_13) rfl (l' := #[.val (.ref b), .val (.int 0), .val (.ref d), .val (.int 0), .val (.int 3), .val (.int 0), .val (.int c0)]) rfl (XS.iload X0.here hx rfl (hb hby d_jdk_52_method_21_15) rfl (XS.sipush X0.here hx rfl (hb hby d_jdk_52_method_21_17) kk_))) ?_
  show Fin _ _ _ _ _ _ _ (s₁.setTop (mkF m 20 #[.val (.ref b), .val (.int 0), .val (.ref d), .val (.int 0), .val (.int 3), .val (.int 0), .val (.int c0)] [(.int 255), (.int c0)]))
  by_cases hx_0 : (255 : Int32) < c0
  · refine Fin.by (fun tt_ kk_ => XS.icmpNo X0.here hx rfl (hb hby d_jdk_52_method_21_20) rfl (tlt hx_0).2.2.2 kk_) ?_
    refine Fin.by (fun tt_ kk_ => XS.iload X0.here hx rfl (hb hby d_jdk_52_method_21_23) rfl kk_) ?_
    show Fin _ _ _ _ _ _ _ (s₁.setTop (mkF m 25 #[.val (.ref b), .val (.int 0), .val (.ref d), .val (.int 0), .val (.int 3), .val (.int 0), .val (.int c0)] [(.int 0)]))
    exact Fin.ret (v := some (.int (0 : Int32))) X0 (fun h => by rw [Bd.returns] at h; cases h) Bd.notSynchronized (by rw [e0]; exact ⟨(0 : Int32), [(.int (0 : Int32)), (.int (0 : Int32)), (.int (0 : Int32))], rfl, N0, (Keep.refl h0 [d]), Ad, (Or.inr (Or.inl ⟨rfl, hx_0⟩))⟩) (by decide) (by decide) (fun fs hr => retI X0 hx Bd.returns (hb hby d_jdk_52_method_21_25) hr)
  · refine Fin.by (fun tt_ kk_ => XS.icmpYes X0.here hx rfl (pc0 := 20) (pc' := 26) rfl (hb hby d_jdk_52_method_21_20) rfl (flt hx_0).2.2.2 (by decide) (by decide) kk_) ?_
    refine Fin.by (fun tt_ kk_ => XS.aloadN X0.here hx rfl (hb hby d_jdk_52_method_21_26) rfl rfl (XS.iloadN X0.here hx rfl (hb hby d_jdk_52_method_21_27) rfl (XS.iload X0.here hx rfl (hb hby d_jdk_52_method_21_28) rfl (XS.i2b X0.here hx rfl (hb hby d_jdk_52_method_21_30) rfl kk_)))) ?_
    obtain ⟨cl102, Ar102, q102, S102, N102, H102, G102⟩ := id Ad
    obtain ⟨T102, h102, X102, e102, W102, st102⟩ := stB X0 hx hZ e0 Ar102 (j := (0 : Int32)) (inb_of S102 ⟨by decide, by decide⟩) (g := (mkF m 31 #[.val (.ref b), .val (.int 0), .val (.ref d), .val (.int 0), .val (.int 3), .val (.int 0), .val (.int c0)] [(.int (c0.toInt8.toInt32)), (.int 0), (.ref d)])) rfl rfl (hb hby d_jdk_52_method_21_31)
    have V102 : Arv Z h102 d kd .byte (3 : Int32) [(.int ((c0.toInt8.toInt32).toInt8.toInt32)), (.int (0 : Int32)), (.int (0 : Int32))] (.int (0 : Int32)) := Arv.set Ar102 q102 S102 N102 H102 G102 (fits_nar_byte _) W102 0 rfl (Nat.le_of_ble_eq_true rfl)
    refine Fin.by (fun tt_ kk_ => st102 tt_ kk_) ?_
    have N102_ := Fr.snoc X102 N0 gd
    refine Fin.by (fun tt_ kk_ => XS.iinc X102.here hx rfl (hb hby d_jdk_52_method_21_32) rfl (l' := #[.val (.ref b), .val (.int 1), .val (.ref d), .val (.int 0), .val (.int 3), .val (.int 0), .val (.int c0)]) rfl (XS.iinc X102.here hx rfl (hb hby d_jdk_52_method_21_35) rfl (l' := #[.val (.ref b), .val (.int 1), .val (.ref d), .val (.int 1), .val (.int 3), .val (.int 0), .val (.int c0)]) rfl (XS.iinc X102.here hx rfl (hb hby d_jdk_52_method_21_38) rfl (l' := #[.val (.ref b), .val (.int 1), .val (.ref d), .val (.int 1), .val (.int 3), .val (.int 1), .val (.int c0)]) rfl (XS.goto X102.here hx rfl (pc0 := 41) (pc' := 3) rfl (hb hby d_jdk_52_method_21_41) (by decide) (by decide) (XS.iload X102.here hx rfl (hb hby d_jdk_52_method_21_3) rfl (XS.iload X102.here hx rfl (hb hby d_jdk_52_method_21_5) rfl kk_)))))) ?_
    show Fin _ _ _ _ _ _ _ (T102.setTop (mkF m 7 #[.val (.ref b), .val (.int 1), .val (.ref d), .val (.int 1), .val (.int 3), .val (.int 1), .val (.int c0)] [(.int 3), (.int 1)]))
    refine Fin.by (fun tt_ kk_ => XS.icmpNo X102.here hx rfl (hb hby d_jdk_52_method_21_7) rfl (tlt (by decide : (1 : Int32) < (3 : Int32))).2.1 kk_) ?_
    refine Fin.by (fun tt_ kk_ => XS.aloadN X102.here hx rfl (hb hby d_jdk_52_method_21_10) rfl rfl (XS.iloadN X102.here hx rfl (hb hby d_jdk_52_method_21_11) rfl kk_)) ?_
    have A103 : Arv Z h102 b kb .char (3 : Int32) [(.int c0), (.int c1), (.int c2)] (.int (0 : Int32)) := (Ab.other W102 nbd)
    obtain ⟨cl104, Ar104, q104, S104, N104, H104, G104⟩ := id A103
    have hin104 : ¬ ((1 : Int32) < 0 ∨ cl104.slots.size ≤ (1 : Int32).toNatClampNeg) := inb_of S104 ⟨by decide, by decide⟩
    refine Fin.by (fun tt_ kk_ => X102.caload hx (j := (1 : Int32)) (v := (.int c1)) (by rw [e102]; exact Ar104.1) (State.isArrayOf_alike hZ.alike Ar104.2.1) Ar104.2.2 hin104 (Has.at H104 hin104 rfl) (g := (mkF m 12 #[.val (.ref b), .val (.int 1), .val (.ref d), .val (.int 1), .val (.int 3), .val (.int 1), .val (.int c0)] [(.int 1), (.ref b)])) rfl rfl (hb hby d_jdk_52_method_21_12) _ kk_) ?_
    refine Fin.by (fun tt_ kk_ => XS.istore X102.here hx rfl (hb hby d_jdk_52_method_21_13) rfl (l' := #[.val (.ref b), .val (.int 1), .val (.ref d), .val (.int 1), .val (.int 3), .val (.int 1), .val (.int c1)]) rfl (XS.iload X102.here hx rfl (hb hby d_jdk_52_method_21_15) rfl (XS.sipush X102.here hx rfl (hb hby d_jdk_52_method_21_17) kk_))) ?_
    show Fin _ _ _ _ _ _ _ (T102.setTop (mkF m 20 #[.val (.ref b), .val (.int 1), .val (.ref d), .val (.int 1), .val (.int 3), .val (.int 1), .val (.int c1)] [(.int 255), (.int c1)]))
    by_cases hx_1 : (255 : Int32) < c1
    · refine Fin.by (fun tt_ kk_ => XS.icmpNo X102.here hx rfl (hb hby d_jdk_52_method_21_20) rfl (tlt hx_1).2.2.2 kk_) ?_
      refine Fin.by (fun tt_ kk_ => XS.iload X102.here hx rfl (hb hby d_jdk_52_method_21_23) rfl kk_) ?_
      have kp105 : Keep h0 h102 [d] := (Keep.refl h0 [d]).wr W102 (Or.inl (List.mem_of_getElem? (i := 0) rfl))
      show Fin _ _ _ _ _ _ _ (T102.setTop (mkF m 25 #[.val (.ref b), .val (.int 1), .val (.ref d), .val (.int 1), .val (.int 3), .val (.int 1), .val (.int c1)] [(.int 1)]))
      exact Fin.ret (v := some (.int (1 : Int32))) X102 (fun h => by rw [Bd.returns] at h; cases h) Bd.notSynchronized (by rw [e102]; exact ⟨(1 : Int32), [(.int ((c0.toInt8.toInt32).toInt8.toInt32)), (.int (0 : Int32)), (.int (0 : Int32))], rfl, N102_, kp105, V102, (Or.inr (Or.inr (Or.inl ⟨rfl, hx_1⟩)))⟩) (by decide) (by decide) (fun fs hr => retI X102 hx Bd.returns (hb hby d_jdk_52_method_21_25) hr)
    · refine Fin.by (fun tt_ kk_ => XS.icmpYes X102.here hx rfl (pc0 := 20) (pc' := 26) rfl (hb hby d_jdk_52_method_21_20) rfl (flt hx_1).2.2.2 (by decide) (by decide) kk_) ?_
      refine Fin.by (fun tt_ kk_ => XS.aloadN X102.here hx rfl (hb hby d_jdk_52_method_21_26) rfl rfl (XS.iloadN X102.here hx rfl (hb hby d_jdk_52_method_21_27) rfl (XS.iload X102.here hx rfl (hb hby d_jdk_52_method_21_28) rfl (XS.i2b X102.here hx rfl (hb hby d_jdk_52_method_21_30) rfl kk_)))) ?_
      obtain ⟨cl106, Ar106, q106, S106, N106, H106, G106⟩ := id V102
      obtain ⟨T106, h106, X106, e106, W106, st106⟩ := stB X102 hx hZ e102 Ar106 (j := (1 : Int32)) (inb_of S106 ⟨by decide, by decide⟩) (g := (mkF m 31 #[.val (.ref b), .val (.int 1), .val (.ref d), .val (.int 1), .val (.int 3), .val (.int 1), .val (.int c1)] [(.int (c1.toInt8.toInt32)), (.int 1), (.ref d)])) rfl rfl (hb hby d_jdk_52_method_21_31)
      have V106 : Arv Z h106 d kd .byte (3 : Int32) [(.int ((c0.toInt8.toInt32).toInt8.toInt32)), (.int ((c1.toInt8.toInt32).toInt8.toInt32)), (.int (0 : Int32))] (.int (0 : Int32)) := Arv.set Ar106 q106 S106 N106 H106 G106 (fits_nar_byte _) W106 1 rfl (Nat.le_of_ble_eq_true rfl)
      refine Fin.by (fun tt_ kk_ => st106 tt_ kk_) ?_
      have N106_ := Fr.snoc X106 N102_ gd
      refine Fin.by (fun tt_ kk_ => XS.iinc X106.here hx rfl (hb hby d_jdk_52_method_21_32) rfl (l' := #[.val (.ref b), .val (.int 2), .val (.ref d), .val (.int 1), .val (.int 3), .val (.int 1), .val (.int c1)]) rfl (XS.iinc X106.here hx rfl (hb hby d_jdk_52_method_21_35) rfl (l' := #[.val (.ref b), .val (.int 2), .val (.ref d), .val (.int 2), .val (.int 3), .val (.int 1), .val (.int c1)]) rfl (XS.iinc X106.here hx rfl (hb hby d_jdk_52_method_21_38) rfl (l' := #[.val (.ref b), .val (.int 2), .val (.ref d), .val (.int 2), .val (.int 3), .val (.int 2), .val (.int c1)]) rfl (XS.goto X106.here hx rfl (pc0 := 41) (pc' := 3) rfl (hb hby d_jdk_52_method_21_41) (by decide) (by decide) (XS.iload X106.here hx rfl (hb hby d_jdk_52_method_21_3) rfl (XS.iload X106.here hx rfl (hb hby d_jdk_52_method_21_5) rfl kk_)))))) ?_
      show Fin _ _ _ _ _ _ _ (T106.setTop (mkF m 7 #[.val (.ref b), .val (.int 2), .val (.ref d), .val (.int 2), .val (.int 3), .val (.int 2), .val (.int c1)] [(.int 3), (.int 2)]))
      refine Fin.by (fun tt_ kk_ => XS.icmpNo X106.here hx rfl (hb hby d_jdk_52_method_21_7) rfl (tlt (by decide : (2 : Int32) < (3 : Int32))).2.1 kk_) ?_
      refine Fin.by (fun tt_ kk_ => XS.aloadN X106.here hx rfl (hb hby d_jdk_52_method_21_10) rfl rfl (XS.iloadN X106.here hx rfl (hb hby d_jdk_52_method_21_11) rfl kk_)) ?_
      have A107 : Arv Z h106 b kb .char (3 : Int32) [(.int c0), (.int c1), (.int c2)] (.int (0 : Int32)) := (A103.other W106 nbd)
      obtain ⟨cl108, Ar108, q108, S108, N108, H108, G108⟩ := id A107
      have hin108 : ¬ ((2 : Int32) < 0 ∨ cl108.slots.size ≤ (2 : Int32).toNatClampNeg) := inb_of S108 ⟨by decide, by decide⟩
      refine Fin.by (fun tt_ kk_ => X106.caload hx (j := (2 : Int32)) (v := (.int c2)) (by rw [e106]; exact Ar108.1) (State.isArrayOf_alike hZ.alike Ar108.2.1) Ar108.2.2 hin108 (Has.at H108 hin108 rfl) (g := (mkF m 12 #[.val (.ref b), .val (.int 2), .val (.ref d), .val (.int 2), .val (.int 3), .val (.int 2), .val (.int c1)] [(.int 2), (.ref b)])) rfl rfl (hb hby d_jdk_52_method_21_12) _ kk_) ?_
      refine Fin.by (fun tt_ kk_ => XS.istore X106.here hx rfl (hb hby d_jdk_52_method_21_13) rfl (l' := #[.val (.ref b), .val (.int 2), .val (.ref d), .val (.int 2), .val (.int 3), .val (.int 2), .val (.int c2)]) rfl (XS.iload X106.here hx rfl (hb hby d_jdk_52_method_21_15) rfl (XS.sipush X106.here hx rfl (hb hby d_jdk_52_method_21_17) kk_))) ?_
      show Fin _ _ _ _ _ _ _ (T106.setTop (mkF m 20 #[.val (.ref b), .val (.int 2), .val (.ref d), .val (.int 2), .val (.int 3), .val (.int 2), .val (.int c2)] [(.int 255), (.int c2)]))
      by_cases hx_2 : (255 : Int32) < c2
      · refine Fin.by (fun tt_ kk_ => XS.icmpNo X106.here hx rfl (hb hby d_jdk_52_method_21_20) rfl (tlt hx_2).2.2.2 kk_) ?_
        refine Fin.by (fun tt_ kk_ => XS.iload X106.here hx rfl (hb hby d_jdk_52_method_21_23) rfl kk_) ?_
        have kp109 : Keep h0 h102 [d] := (Keep.refl h0 [d]).wr W102 (Or.inl (List.mem_of_getElem? (i := 0) rfl))
        have kp110 : Keep h0 h106 [d] := kp109.wr W106 (Or.inl (List.mem_of_getElem? (i := 0) rfl))
        show Fin _ _ _ _ _ _ _ (T106.setTop (mkF m 25 #[.val (.ref b), .val (.int 2), .val (.ref d), .val (.int 2), .val (.int 3), .val (.int 2), .val (.int c2)] [(.int 2)]))
        exact Fin.ret (v := some (.int (2 : Int32))) X106 (fun h => by rw [Bd.returns] at h; cases h) Bd.notSynchronized (by rw [e106]; exact ⟨(2 : Int32), [(.int ((c0.toInt8.toInt32).toInt8.toInt32)), (.int ((c1.toInt8.toInt32).toInt8.toInt32)), (.int (0 : Int32))], rfl, N106_, kp110, V106, (Or.inr (Or.inr (Or.inr ⟨rfl, hx_2⟩)))⟩) (by decide) (by decide) (fun fs hr => retI X106 hx Bd.returns (hb hby d_jdk_52_method_21_25) hr)
      · refine Fin.by (fun tt_ kk_ => XS.icmpYes X106.here hx rfl (pc0 := 20) (pc' := 26) rfl (hb hby d_jdk_52_method_21_20) rfl (flt hx_2).2.2.2 (by decide) (by decide) kk_) ?_
        refine Fin.by (fun tt_ kk_ => XS.aloadN X106.here hx rfl (hb hby d_jdk_52_method_21_26) rfl rfl (XS.iloadN X106.here hx rfl (hb hby d_jdk_52_method_21_27) rfl (XS.iload X106.here hx rfl (hb hby d_jdk_52_method_21_28) rfl (XS.i2b X106.here hx rfl (hb hby d_jdk_52_method_21_30) rfl kk_)))) ?_
        obtain ⟨cl111, Ar111, q111, S111, N111, H111, G111⟩ := id V106
        obtain ⟨T111, h111, X111, e111, W111, st111⟩ := stB X106 hx hZ e106 Ar111 (j := (2 : Int32)) (inb_of S111 ⟨by decide, by decide⟩) (g := (mkF m 31 #[.val (.ref b), .val (.int 2), .val (.ref d), .val (.int 2), .val (.int 3), .val (.int 2), .val (.int c2)] [(.int (c2.toInt8.toInt32)), (.int 2), (.ref d)])) rfl rfl (hb hby d_jdk_52_method_21_31)
        have V111 : Arv Z h111 d kd .byte (3 : Int32) [(.int ((c0.toInt8.toInt32).toInt8.toInt32)), (.int ((c1.toInt8.toInt32).toInt8.toInt32)), (.int ((c2.toInt8.toInt32).toInt8.toInt32))] (.int (0 : Int32)) := Arv.set Ar111 q111 S111 N111 H111 G111 (fits_nar_byte _) W111 2 rfl (Nat.le_of_ble_eq_true rfl)
        refine Fin.by (fun tt_ kk_ => st111 tt_ kk_) ?_
        have N111_ := Fr.snoc X111 N106_ gd
        refine Fin.by (fun tt_ kk_ => XS.iinc X111.here hx rfl (hb hby d_jdk_52_method_21_32) rfl (l' := #[.val (.ref b), .val (.int 3), .val (.ref d), .val (.int 2), .val (.int 3), .val (.int 2), .val (.int c2)]) rfl (XS.iinc X111.here hx rfl (hb hby d_jdk_52_method_21_35) rfl (l' := #[.val (.ref b), .val (.int 3), .val (.ref d), .val (.int 3), .val (.int 3), .val (.int 2), .val (.int c2)]) rfl (XS.iinc X111.here hx rfl (hb hby d_jdk_52_method_21_38) rfl (l' := #[.val (.ref b), .val (.int 3), .val (.ref d), .val (.int 3), .val (.int 3), .val (.int 3), .val (.int c2)]) rfl (XS.goto X111.here hx rfl (pc0 := 41) (pc' := 3) rfl (hb hby d_jdk_52_method_21_41) (by decide) (by decide) (XS.iload X111.here hx rfl (hb hby d_jdk_52_method_21_3) rfl (XS.iload X111.here hx rfl (hb hby d_jdk_52_method_21_5) rfl kk_)))))) ?_
        show Fin _ _ _ _ _ _ _ (T111.setTop (mkF m 7 #[.val (.ref b), .val (.int 3), .val (.ref d), .val (.int 3), .val (.int 3), .val (.int 3), .val (.int c2)] [(.int 3), (.int 3)]))
        refine Fin.by (fun tt_ kk_ => XS.icmpYes X111.here hx rfl (pc0 := 7) (pc' := 44) rfl (hb hby d_jdk_52_method_21_7) rfl (flt (by decide : ¬ (3 : Int32) < (3 : Int32))).2.1 (by decide) (by decide) kk_) ?_
        refine Fin.by (fun tt_ kk_ => XS.iload X111.here hx rfl (hb hby d_jdk_52_method_21_44) rfl kk_) ?_
        have kp112 : Keep h0 h102 [d] := (Keep.refl h0 [d]).wr W102 (Or.inl (List.mem_of_getElem? (i := 0) rfl))
        have kp113 : Keep h0 h106 [d] := kp112.wr W106 (Or.inl (List.mem_of_getElem? (i := 0) rfl))
        have kp114 : Keep h0 h111 [d] := kp113.wr W111 (Or.inl (List.mem_of_getElem? (i := 0) rfl))
        show Fin _ _ _ _ _ _ _ (T111.setTop (mkF m 46 #[.val (.ref b), .val (.int 3), .val (.ref d), .val (.int 3), .val (.int 3), .val (.int 3), .val (.int c2)] [(.int 3)]))
        exact Fin.ret (v := some (.int (3 : Int32))) X111 (fun h => by rw [Bd.returns] at h; cases h) Bd.notSynchronized (by rw [e111]; exact ⟨(3 : Int32), [(.int ((c0.toInt8.toInt32).toInt8.toInt32)), (.int ((c1.toInt8.toInt32).toInt8.toInt32)), (.int ((c2.toInt8.toInt32).toInt8.toInt32))], rfl, N111_, kp114, V111, (Or.inl ⟨rfl, rfl, hx_0, hx_1, hx_2⟩)⟩) (by decide) (by decide) (fun fs hr => retI X111 hx Bd.returns (hb hby d_jdk_52_method_21_46) hr)
def Q_nbl_3 (Z : State)  (h0 : Heap) (n0 : Nat) (vv_ : Option Value) (hh_ : Heap) (LL_ : List Loc) : Prop := vv_ = some (.int (6 : Int32)) ∧ Fr n0 LL_ ∧ hh_ = h0
set_option maxRecDepth 65536 in
set_option maxHeartbeats 40000000 in
theorem rm_nbl_3 (l : Launch) (Z : State) (a0 : Array Value) (hw : ∀ d ∈ tables_1, d.before a0 Z = true) (ws : List Jvm.Cond)  (h0 : Heap) (n0 : Nat) (Z0 : n0 ≤ h0.size) :
    MetFree l (⟨"java/lang/StringUTF16", "newBytesLength", "(I)I"⟩ : MethodName) (head1 (Jvm.Cond.code (⟨"java/lang/StringUTF16", "newBytesLength", "(I)I"⟩ : MethodName) jdk_52_method_3_code 1 (some .int) :: ws) ({ frames := 0, cells := 0, slots := 0, locals := 0 } : Room)) (fun aa_ U => aa_ = #[(.int (3 : Int32))] ∧ Z.Warmed39 U.vm ∧ U.heap = h0) (fun _ _ _ _ _ => True) (fun _ U o U' => ∃ vv_ LL_, o = .returned vv_ ∧ Q_nbl_3 Z  h0 n0 vv_ U'.heap LL_ ∧ FrameEnd U o U' LL_ 0 0) := by
  refine MetFree.of_bodySF (plainFor_of_name pn_java_lang_StringUTF16) hisR ?_
  intro p e s m args below meth c s₁ Bd hml0 hP hK
  obtain ⟨rfl, hZ, hh⟩ := hP
  have hx := Bd.exec
  have hby := Bd.bytes
  have hml : c.maxLocals = 1 := hml0
  have hown : s.vm.findClass "java/lang/StringUTF16" = some m.cls := findClass_of_methodNamed Bd.named
  have hnm := (name_of_methodNamed Bd.named Bd.method).1
  have X0 : Stand p l e ({ frames := 0, cells := 0, slots := 0, locals := 0 } : Room) s m #[(.int (3 : Int32))] below meth c s₁ [] 0 0 := Stand.of_body Bd
  have e0 : s₁.heap = h0 := by rw [← hh, Bd.state]; rfl
  have N0 := Fr.nil n0
  have ef : entryFrame m #[(.int (3 : Int32))] 1 = mkF m 0 #[.val (.int (3 : Int32))] [] := by first | (simp [entryFrame, mkF, argsToLocals, Value.category]; done) | rfl
  refine Fin.start (Q := Q_nbl_3 Z  h0 n0) ef ?_
  refine Fin.by (fun tt_ kk_ => XS.iloadN X0.here hx rfl (hb hby d_jdk_52_method_3_0) rfl kk_) ?_
  show Fin _ _ _ _ _ _ _ (s₁.setTop (mkF m 1 #[.val (.int 3)] [(.int 3)]))
  refine Fin.by (fun tt_ kk_ => XS.ifYes X0.here hx rfl (pc0 := 1) (pc' := 12) rfl (hb hby d_jdk_52_method_3_1) rfl ((if0 _ _).trans (flt (by decide : ¬ (3 : Int32) < (0 : Int32))).2.1) (by decide) (by decide) kk_) ?_
  refine Fin.by (fun tt_ kk_ => XS.iloadN X0.here hx rfl (hb hby d_jdk_52_method_3_12) rfl kk_) ?_
  refine Fin.by (fun tt_ kk_ => X0.ldcInt hx hown (mvT hZ (w_ hw 88 rfl)) (g := (mkF m 13 #[.val (.int 3)] [(.int 3)])) rfl (hb hby d_jdk_52_method_3_13) _ kk_) ?_
  show Fin _ _ _ _ _ _ _ (s₁.setTop (mkF m 15 #[.val (.int 3)] [(.int 1073741823), (.int 3)]))
  refine Fin.by (fun tt_ kk_ => XS.icmpYes X0.here hx rfl (pc0 := 15) (pc' := 55) rfl (hb hby d_jdk_52_method_3_15) rfl (tlt (by decide : (3 : Int32) < (1073741823 : Int32))).1 (by decide) (by decide) kk_) ?_
  refine Fin.by (fun tt_ kk_ => XS.iloadN X0.here hx rfl (hb hby d_jdk_52_method_3_55) rfl (XS.iconst X0.here hx rfl (hb hby d_jdk_52_method_3_56) (XS.ishl X0.here hx rfl (hb hby d_jdk_52_method_3_57) rfl kk_))) ?_
  show Fin _ _ _ _ _ _ _ (s₁.setTop (mkF m 58 #[.val (.int 3)] [(.int 6)]))
  exact Fin.ret (v := some (.int (6 : Int32))) X0 (fun h => by rw [Bd.returns] at h; cases h) Bd.notSynchronized (by rw [e0]; exact ⟨rfl, N0, rfl⟩) (by decide) (by decide) (fun fs hr => retI X0 hx Bd.returns (hb hby d_jdk_52_method_3_58) hr)
def Q_nbf_3 (Z : State)  (h0 : Heap) (n0 : Nat) (vv_ : Option Value) (hh_ : Heap) (LL_ : List Loc) : Prop := ∃ (t : Addr), ∃ (k : ClassId), vv_ = some (.ref t) ∧ Fr n0 LL_ ∧ Keep h0 hh_ [] ∧ h0.size ≤ t ∧ Arv Z hh_ t k .byte (6 : Int32) [(.int (0 : Int32)), (.int (0 : Int32)), (.int (0 : Int32)), (.int (0 : Int32)), (.int (0 : Int32)), (.int (0 : Int32))] (.int (0 : Int32))
set_option maxRecDepth 65536 in
set_option maxHeartbeats 40000000 in
theorem rm_nbf_3 (l : Launch) (Z : State) (a0 : Array Value) (hw : ∀ d ∈ tables_1, d.before a0 Z = true) (ws : List Jvm.Cond)  (h0 : Heap) (n0 : Nat) (Z0 : n0 ≤ h0.size) :
    MetFree l (⟨"java/lang/StringUTF16", "newBytesFor", "(I)[B"⟩ : MethodName) (head1 (Jvm.Cond.code (⟨"java/lang/StringUTF16", "newBytesFor", "(I)[B"⟩ : MethodName) jdk_52_method_2_code 1 (some (.array .byte)) :: ws) ({ frames := 1, cells := 1, slots := 6, locals := 12 } : Room)) (fun aa_ U => aa_ = #[(.int (3 : Int32))] ∧ Z.Warmed39 U.vm ∧ U.heap = h0) (fun _ _ _ _ _ => True) (fun _ U o U' => ∃ vv_ LL_, o = .returned vv_ ∧ Q_nbf_3 Z  h0 n0 vv_ U'.heap LL_ ∧ FrameEnd U o U' LL_ 1 6) := by
  refine MetFree.of_bodySF (plainFor_of_name pn_java_lang_StringUTF16) hisR ?_
  intro p e s m args below meth c s₁ Bd hml0 hP hK
  obtain ⟨rfl, hZ, hh⟩ := hP
  have hx := Bd.exec
  have hby := Bd.bytes
  have hml : c.maxLocals = 1 := hml0
  have hown : s.vm.findClass "java/lang/StringUTF16" = some m.cls := findClass_of_methodNamed Bd.named
  have hnm := (name_of_methodNamed Bd.named Bd.method).1
  have X0 : Stand p l e ({ frames := 1, cells := 1, slots := 6, locals := 12 } : Room) s m #[(.int (3 : Int32))] below meth c s₁ [] 0 0 := Stand.of_body Bd
  have e0 : s₁.heap = h0 := by rw [← hh, Bd.state]; rfl
  have N0 := Fr.nil n0
  have ef : entryFrame m #[(.int (3 : Int32))] 1 = mkF m 0 #[.val (.int (3 : Int32))] [] := by first | (simp [entryFrame, mkF, argsToLocals, Value.category]; done) | rfl
  refine Fin.start (Q := Q_nbf_3 Z  h0 n0) ef ?_
  refine Fin.by (fun tt_ kk_ => XS.iloadN X0.here hx rfl (hb hby d_jdk_52_method_2_0) rfl kk_) ?_
  obtain ⟨v101, _, ⟨T101, L101, k101, n101⟩, -, X101, ⟨Lc101, hQ101, l101, y101, z101⟩, st101⟩ := Jvm.LawKit.callS X0 hx (y := y_8) hown (mvT hZ (w_ hw 85 rfl)) (mvT hZ (w_ hw 86 rfl)) (mvT hZ (w_ hw 71 rfl)) (mvT hZ (w_ hw 87 rfl)) (by decide) (backOf (W := 0) (rm_nbl_3 l Z a0 hw []  h0 n0 Z0 ) hZ (w_ hw 87 rfl) (w_ hw 71 rfl) (by decide) (by decide)) (g := (mkF m 1 #[.val (.int 3)] [(.int 3)])) rfl (by rw [hml]; rfl) (argsL := [(.int 3)]) (rest := []) (lenOf pd_154 rfl) rfl (by show 2 * 0 + _ ≤ _; exact Nat.le_of_eq rfl) (hb hby d_jdk_52_method_2_1) (fun _ _ => ⟨rfl, e0, (by decide : 0 + 0 ≤ _), (by decide : 0 + 0 ≤ _)⟩)
  dsimp only [Pt.U, Pt.locs, Pt.cells, Pt.slots] at X101 l101 y101 z101 st101 hQ101
  subst l101 y101 z101
  obtain ⟨rfl, Nq101, e101_⟩ := hQ101
  have N101_ := Fr.app N0 Nq101
  refine Fin.by (fun tt_ kk_ => st101 tt_ kk_) ?_
  have e101 := e101_
  obtain ⟨T102, h102, k102, X102, e102, E102, A102, st102⟩ := newP X101 hx hZ (w_ hw 21 rfl) e101 (g := (mkF m 4 #[.val (.int 3)] [(.int 6)])) rfl (hb hby d_jdk_52_method_2_4) rfl (by decide) (cap := 6) (by decide) (by decide) (by decide) (by decide)
  obtain ⟨a102, g102⟩ : ∃ z, z = h0.size := ⟨_, rfl⟩
  rw [← g102] at A102 st102
  refine Fin.by (fun tt_ kk_ => st102 tt_ kk_) ?_
  have V102 : Arv Z h102 a102 k102 .byte (6 : Int32) [(.int (0 : Int32)), (.int (0 : Int32)), (.int (0 : Int32)), (.int (0 : Int32)), (.int (0 : Int32)), (.int (0 : Int32))] (.int (0 : Int32)) := (Arv.new A102 (by decide)).pad (pad_rep [] (.int (0 : Int32)) 6)
  have kp103 : Keep h0 h102 [] := (Keep.refl h0 []).ext E102
  show Fin _ _ _ _ _ _ _ (T102.setTop (mkF m 6 #[.val (.int 3)] [(.ref a102)]))
  exact Fin.ret (v := some (.ref a102)) X102 (fun h => by rw [Bd.returns] at h; cases h) Bd.notSynchronized (by rw [e102]; exact ⟨a102, k102, rfl, N101_, kp103, (Nat.le_trans (Nat.le_refl _) (Nat.le_of_eq g102.symm)), V102⟩) (by decide) (by decide) (fun fs hr => retA X102 hx Bd.returns rfl rfl (hb hby d_jdk_52_method_2_6) hr)
def Q_tob_3 (Z : State) (b : Addr) (kb : ClassId) (c0 : Int32) (c1 : Int32) (c2 : Int32) (h0 : Heap) (n0 : Nat) (vv_ : Option Value) (hh_ : Heap) (LL_ : List Loc) : Prop := ∃ (t : Addr), ∃ (k : ClassId), vv_ = some (.ref t) ∧ Fr n0 LL_ ∧ Keep h0 hh_ [] ∧ h0.size ≤ t ∧ Arv Z hh_ t k .byte (6 : Int32) [(.int (((c0 >>> ((0 : Int32) &&& 31)).toInt8.toInt32).toInt8.toInt32)), (.int (((c0 >>> ((8 : Int32) &&& 31)).toInt8.toInt32).toInt8.toInt32)), (.int (((c1 >>> ((0 : Int32) &&& 31)).toInt8.toInt32).toInt8.toInt32)), (.int (((c1 >>> ((8 : Int32) &&& 31)).toInt8.toInt32).toInt8.toInt32)), (.int (((c2 >>> ((0 : Int32) &&& 31)).toInt8.toInt32).toInt8.toInt32)), (.int (((c2 >>> ((8 : Int32) &&& 31)).toInt8.toInt32).toInt8.toInt32))] (.int (0 : Int32))
set_option maxRecDepth 65536 in
set_option maxHeartbeats 40000000 in
theorem rm_tob_3 (l : Launch) (Z : State) (a0 : Array Value) (hw : ∀ d ∈ tables_1, d.before a0 Z = true) (ws : List Jvm.Cond) (b : Addr) (kb : ClassId) (c0 : Int32) (c1 : Int32) (c2 : Int32) (h0 : Heap) (n0 : Nat) (Z0 : n0 ≤ h0.size) (Ab : Arv Z h0 b kb .char (3 : Int32) [(.int c0), (.int c1), (.int c2)] (.int (0 : Int32))) (S6 : Sta Z Z.heap "java/lang/StringUTF16" "$assertionsDisabled" "Z" (.int (1 : Int32))) (S7 : Sta Z Z.heap "java/lang/StringUTF16" "HI_BYTE_SHIFT" "I" (.int (0 : Int32))) (S8 : Sta Z Z.heap "java/lang/StringUTF16" "LO_BYTE_SHIFT" "I" (.int (8 : Int32))) (OL : Old Z n0 h0) :
    MetFree l (⟨"java/lang/StringUTF16", "toBytes", "([CII)[B"⟩ : MethodName) (head1 (Jvm.Cond.code (⟨"java/lang/StringUTF16", "toBytes", "([CII)[B"⟩ : MethodName) jdk_52_method_14_code 5 (some (.array .byte)) :: ws) ({ frames := 2, cells := 1, slots := 6, locals := 24 } : Room)) (fun aa_ U => aa_ = #[(.ref b), (.int (0 : Int32)), (.int (3 : Int32))] ∧ Z.Warmed39 U.vm ∧ U.heap = h0) (fun _ _ _ _ _ => True) (fun _ U o U' => ∃ vv_ LL_, o = .returned vv_ ∧ Q_tob_3 Z b kb c0 c1 c2 h0 n0 vv_ U'.heap LL_ ∧ FrameEnd U o U' LL_ 1 6) := by
  refine MetFree.of_bodySF (plainFor_of_name pn_java_lang_StringUTF16) hisR ?_
  intro p e s m args below meth c s₁ Bd hml0 hP hK
  obtain ⟨rfl, hZ, hh⟩ := hP
  have hx := Bd.exec
  have hby := Bd.bytes
  have hml : c.maxLocals = 5 := hml0
  have hown : s.vm.findClass "java/lang/StringUTF16" = some m.cls := findClass_of_methodNamed Bd.named
  have hnm := (name_of_methodNamed Bd.named Bd.method).1
  have X0 : Stand p l e ({ frames := 2, cells := 1, slots := 6, locals := 24 } : Room) s m #[(.ref b), (.int (0 : Int32)), (.int (3 : Int32))] below meth c s₁ [] 0 0 := Stand.of_body Bd
  have e0 : s₁.heap = h0 := by rw [← hh, Bd.state]; rfl
  have N0 := Fr.nil n0
  have ef : entryFrame m #[(.ref b), (.int (0 : Int32)), (.int (3 : Int32))] 5 = mkF m 0 #[.val (.ref b), .val (.int (0 : Int32)), .val (.int (3 : Int32)), .unset, .unset] [] := by first | (simp [entryFrame, mkF, argsToLocals, Value.category]; done) | rfl
  refine Fin.start (Q := Q_tob_3 Z b kb c0 c1 c2 h0 n0) ef ?_
  refine Fin.by (fun tt_ kk_ => XS.iloadN X0.here hx rfl (hb hby d_jdk_52_method_14_0) rfl kk_) ?_
  obtain ⟨v101, _, ⟨T101, L101, k101, n101⟩, -, X101, ⟨Lc101, hQ101, l101, y101, z101⟩, st101⟩ := Jvm.LawKit.callS X0 hx (y := y_9) hown (mvT hZ (w_ hw 82 rfl)) (mvT hZ (w_ hw 83 rfl)) (mvT hZ (w_ hw 71 rfl)) (mvT hZ (w_ hw 84 rfl)) (by decide) (backOf (W := 0) (rm_nbf_3 l Z a0 hw []  h0 n0 Z0 ) hZ (w_ hw 84 rfl) (w_ hw 71 rfl) (by decide) (by decide)) (g := (mkF m 1 #[.val (.ref b), .val (.int 0), .val (.int 3), .unset, .unset] [(.int 3)])) rfl (by rw [hml]; rfl) (argsL := [(.int 3)]) (rest := []) (lenOf pd_159 rfl) rfl (by show 2 * 0 + _ ≤ _; exact Nat.le_of_eq rfl) (hb hby d_jdk_52_method_14_1) (fun _ _ => ⟨rfl, e0, (by decide : 0 + 1 ≤ _), (by decide : 0 + 6 ≤ _)⟩)
  dsimp only [Pt.U, Pt.locs, Pt.cells, Pt.slots] at X101 l101 y101 z101 st101 hQ101
  subst l101 y101 z101
  obtain ⟨t102, k103, rfl, Nq101, p101_0, p101_1, p101_2⟩ := hQ101
  have N101_ := Fr.app N0 Nq101
  refine Fin.by (fun tt_ kk_ => st101 tt_ kk_) ?_
  refine Fin.by (fun tt_ kk_ => XS.astoreN X101.here hx rfl (hb hby d_jdk_52_method_14_4) rfl rfl (l' := #[.val (.ref b), .val (.int 0), .val (.int 3), .val (.ref t102), .unset]) rfl (XS.iconst X101.here hx rfl (hb hby d_jdk_52_method_14_5) (XS.istore X101.here hx rfl (hb hby d_jdk_52_method_14_6) rfl (l' := #[.val (.ref b), .val (.int 0), .val (.int 3), .val (.ref t102), .val (.int 0)]) rfl (XS.iload X101.here hx rfl (hb hby d_jdk_52_method_14_8) rfl (XS.iloadN X101.here hx rfl (hb hby d_jdk_52_method_14_10) rfl kk_))))) ?_
  show Fin _ _ _ _ _ _ _ (T101.setTop (mkF m 11 #[.val (.ref b), .val (.int 0), .val (.int 3), .val (.ref t102), .val (.int 0)] [(.int 3), (.int 0)]))
  refine Fin.by (fun tt_ kk_ => XS.icmpNo X101.here hx rfl (hb hby d_jdk_52_method_14_11) rfl (tlt (by decide : (0 : Int32) < (3 : Int32))).2.1 kk_) ?_
  refine Fin.by (fun tt_ kk_ => XS.aloadN X101.here hx rfl (hb hby d_jdk_52_method_14_14) rfl rfl (XS.iload X101.here hx rfl (hb hby d_jdk_52_method_14_15) rfl (XS.aloadN X101.here hx rfl (hb hby d_jdk_52_method_14_17) rfl rfl (XS.iloadN X101.here hx rfl (hb hby d_jdk_52_method_14_18) rfl kk_)))) ?_
  have A104 : Arv Z T101.heap b kb .char (3 : Int32) [(.int c0), (.int c1), (.int c2)] (.int (0 : Int32)) := (Ab.keep p101_0 nin0)
  obtain ⟨cl105, Ar105, q105, S105, N105, H105, G105⟩ := id A104
  have hin105 : ¬ ((0 : Int32) < 0 ∨ cl105.slots.size ≤ (0 : Int32).toNatClampNeg) := inb_of S105 ⟨by decide, by decide⟩
  refine Fin.by (fun tt_ kk_ => X101.caload hx (j := (0 : Int32)) (v := (.int c0)) (Ar105.1) (State.isArrayOf_alike hZ.alike Ar105.2.1) Ar105.2.2 hin105 (Has.at H105 hin105 rfl) (g := (mkF m 19 #[.val (.ref b), .val (.int 0), .val (.int 3), .val (.ref t102), .val (.int 0)] [(.int 0), (.ref b), (.int 0), (.ref t102)])) rfl rfl (hb hby d_jdk_52_method_14_19) _ kk_) ?_
  have g106 : n0 ≤ t102 := Nat.le_trans Z0 p101_1
  have O107 : Old Z n0 T101.heap := (OL.keep p101_0 all0)
  have z108 : n0 ≤ T101.heap.size := Nat.le_trans Z0 p101_0.1
  obtain ⟨v109, _, ⟨T109, L109, k109, n109⟩, -, X109, ⟨Lc109, hQ109, l109, y109, z109⟩, st109⟩ := Jvm.LawKit.callS X101 hx (y := y_10) hown (mvT hZ (w_ hw 89 rfl)) (mvT hZ (w_ hw 90 rfl)) (mvT hZ (w_ hw 71 rfl)) (mvT hZ (w_ hw 91 rfl)) (by decide) (backOf (W := 0) (rm_pch0 l Z a0 hw [] t102 k103 (6 : Int32) ([(.int (0 : Int32)), (.int (0 : Int32)), (.int (0 : Int32)), (.int (0 : Int32)), (.int (0 : Int32)), (.int (0 : Int32))] : List Value) c0 T101.heap n0 z108 (Nat.le_of_ble_eq_true rfl) (Nat.le_of_ble_eq_true rfl) (by decide) (by decide) p101_2 g106 S6 S7 S8 O107) hZ (w_ hw 91 rfl) (w_ hw 71 rfl) (by decide) (by decide)) (g := (mkF m 20 #[.val (.ref b), .val (.int 0), .val (.int 3), .val (.ref t102), .val (.int 0)] [(.int c0), (.int 0), (.ref t102)])) rfl (by rw [hml]; rfl) (argsL := [(.ref t102), (.int 0), (.int c0)]) (rest := []) (lenOf pd_172 rfl) rfl (by show 2 * 0 + _ ≤ _; exact Nat.le_of_eq rfl) (hb hby d_jdk_52_method_14_20) (fun _ _ => ⟨rfl, rfl, (by decide : 1 + 0 ≤ _), (by decide : 6 + 0 ≤ _)⟩)
  dsimp only [Pt.U, Pt.locs, Pt.cells, Pt.slots] at X109 l109 y109 z109 st109 hQ109
  subst l109 y109 z109
  obtain ⟨rfl, Nq109, p109_0, p109_1⟩ := hQ109
  have N109_ := Fr.app N101_ Nq109
  refine Fin.by (fun tt_ kk_ => st109 tt_ kk_) ?_
  have V110 : Arv Z T109.heap t102 k103 .byte (6 : Int32) [(.int (((c0 >>> ((0 : Int32) &&& 31)).toInt8.toInt32).toInt8.toInt32)), (.int (((c0 >>> ((8 : Int32) &&& 31)).toInt8.toInt32).toInt8.toInt32)), (.int (0 : Int32)), (.int (0 : Int32)), (.int (0 : Int32)), (.int (0 : Int32))] (.int (0 : Int32)) := p109_1
  refine Fin.by (fun tt_ kk_ => XS.iinc X109.here hx rfl (hb hby d_jdk_52_method_14_23) rfl (l' := #[.val (.ref b), .val (.int 1), .val (.int 3), .val (.ref t102), .val (.int 0)]) rfl (XS.iinc X109.here hx rfl (hb hby d_jdk_52_method_14_26) rfl (l' := #[.val (.ref b), .val (.int 1), .val (.int 3), .val (.ref t102), .val (.int 1)]) rfl (XS.goto X109.here hx rfl (pc0 := 29) (pc' := 8) rfl (hb hby d_jdk_52_method_14_29) (by decide) (by decide) (XS.iload X109.here hx rfl (hb hby d_jdk_52_method_14_8) rfl (XS.iloadN X109.here hx rfl (hb hby d_jdk_52_method_14_10) rfl kk_))))) ?_
  show Fin _ _ _ _ _ _ _ (T109.setTop (mkF m 11 #[.val (.ref b), .val (.int 1), .val (.int 3), .val (.ref t102), .val (.int 1)] [(.int 3), (.int 1)]))
  refine Fin.by (fun tt_ kk_ => XS.icmpNo X109.here hx rfl (hb hby d_jdk_52_method_14_11) rfl (tlt (by decide : (1 : Int32) < (3 : Int32))).2.1 kk_) ?_
  refine Fin.by (fun tt_ kk_ => XS.aloadN X109.here hx rfl (hb hby d_jdk_52_method_14_14) rfl rfl (XS.iload X109.here hx rfl (hb hby d_jdk_52_method_14_15) rfl (XS.aloadN X109.here hx rfl (hb hby d_jdk_52_method_14_17) rfl rfl (XS.iloadN X109.here hx rfl (hb hby d_jdk_52_method_14_18) rfl kk_)))) ?_
  have ne111 : b ≠ t102 := Nat.ne_of_lt (Nat.lt_of_lt_of_le Ab.lt p101_1)
  have A112 : Arv Z T109.heap b kb .char (3 : Int32) [(.int c0), (.int c1), (.int c2)] (.int (0 : Int32)) := (A104.keep p109_0 (ninS ne111 nin0))
  obtain ⟨cl113, Ar113, q113, S113, N113, H113, G113⟩ := id A112
  have hin113 : ¬ ((1 : Int32) < 0 ∨ cl113.slots.size ≤ (1 : Int32).toNatClampNeg) := inb_of S113 ⟨by decide, by decide⟩
  refine Fin.by (fun tt_ kk_ => X109.caload hx (j := (1 : Int32)) (v := (.int c1)) (Ar113.1) (State.isArrayOf_alike hZ.alike Ar113.2.1) Ar113.2.2 hin113 (Has.at H113 hin113 rfl) (g := (mkF m 19 #[.val (.ref b), .val (.int 1), .val (.int 3), .val (.ref t102), .val (.int 1)] [(.int 1), (.ref b), (.int 1), (.ref t102)])) rfl rfl (hb hby d_jdk_52_method_14_19) _ kk_) ?_
  have O114 : Old Z n0 T109.heap := (O107.keep p109_0 (allS g106 all0))
  have z115 : n0 ≤ T109.heap.size := Nat.le_trans z108 p109_0.1
  obtain ⟨v116, _, ⟨T116, L116, k116, n116⟩, -, X116, ⟨Lc116, hQ116, l116, y116, z116⟩, st116⟩ := Jvm.LawKit.callS X109 hx (y := y_10) hown (mvT hZ (w_ hw 89 rfl)) (mvT hZ (w_ hw 90 rfl)) (mvT hZ (w_ hw 71 rfl)) (mvT hZ (w_ hw 91 rfl)) (by decide) (backOf (W := 0) (rm_pch1 l Z a0 hw [] t102 k103 (6 : Int32) ([(.int (((c0 >>> ((0 : Int32) &&& 31)).toInt8.toInt32).toInt8.toInt32)), (.int (((c0 >>> ((8 : Int32) &&& 31)).toInt8.toInt32).toInt8.toInt32)), (.int (0 : Int32)), (.int (0 : Int32)), (.int (0 : Int32)), (.int (0 : Int32))] : List Value) c1 T109.heap n0 z115 (Nat.le_of_ble_eq_true rfl) (Nat.le_of_ble_eq_true rfl) (by decide) (by decide) V110 g106 S6 S7 S8 O114) hZ (w_ hw 91 rfl) (w_ hw 71 rfl) (by decide) (by decide)) (g := (mkF m 20 #[.val (.ref b), .val (.int 1), .val (.int 3), .val (.ref t102), .val (.int 1)] [(.int c1), (.int 1), (.ref t102)])) rfl (by rw [hml]; rfl) (argsL := [(.ref t102), (.int 1), (.int c1)]) (rest := []) (lenOf pd_172 rfl) rfl (by show 2 * 0 + _ ≤ _; exact Nat.le_of_eq rfl) (hb hby d_jdk_52_method_14_20) (fun _ _ => ⟨rfl, rfl, (by decide : 1 + 0 ≤ _), (by decide : 6 + 0 ≤ _)⟩)
  dsimp only [Pt.U, Pt.locs, Pt.cells, Pt.slots] at X116 l116 y116 z116 st116 hQ116
  subst l116 y116 z116
  obtain ⟨rfl, Nq116, p116_0, p116_1⟩ := hQ116
  have N116_ := Fr.app N109_ Nq116
  refine Fin.by (fun tt_ kk_ => st116 tt_ kk_) ?_
  have V117 : Arv Z T116.heap t102 k103 .byte (6 : Int32) [(.int (((c0 >>> ((0 : Int32) &&& 31)).toInt8.toInt32).toInt8.toInt32)), (.int (((c0 >>> ((8 : Int32) &&& 31)).toInt8.toInt32).toInt8.toInt32)), (.int (((c1 >>> ((0 : Int32) &&& 31)).toInt8.toInt32).toInt8.toInt32)), (.int (((c1 >>> ((8 : Int32) &&& 31)).toInt8.toInt32).toInt8.toInt32)), (.int (0 : Int32)), (.int (0 : Int32))] (.int (0 : Int32)) := p116_1
  refine Fin.by (fun tt_ kk_ => XS.iinc X116.here hx rfl (hb hby d_jdk_52_method_14_23) rfl (l' := #[.val (.ref b), .val (.int 2), .val (.int 3), .val (.ref t102), .val (.int 1)]) rfl (XS.iinc X116.here hx rfl (hb hby d_jdk_52_method_14_26) rfl (l' := #[.val (.ref b), .val (.int 2), .val (.int 3), .val (.ref t102), .val (.int 2)]) rfl (XS.goto X116.here hx rfl (pc0 := 29) (pc' := 8) rfl (hb hby d_jdk_52_method_14_29) (by decide) (by decide) (XS.iload X116.here hx rfl (hb hby d_jdk_52_method_14_8) rfl (XS.iloadN X116.here hx rfl (hb hby d_jdk_52_method_14_10) rfl kk_))))) ?_
  show Fin _ _ _ _ _ _ _ (T116.setTop (mkF m 11 #[.val (.ref b), .val (.int 2), .val (.int 3), .val (.ref t102), .val (.int 2)] [(.int 3), (.int 2)]))
  refine Fin.by (fun tt_ kk_ => XS.icmpNo X116.here hx rfl (hb hby d_jdk_52_method_14_11) rfl (tlt (by decide : (2 : Int32) < (3 : Int32))).2.1 kk_) ?_
  refine Fin.by (fun tt_ kk_ => XS.aloadN X116.here hx rfl (hb hby d_jdk_52_method_14_14) rfl rfl (XS.iload X116.here hx rfl (hb hby d_jdk_52_method_14_15) rfl (XS.aloadN X116.here hx rfl (hb hby d_jdk_52_method_14_17) rfl rfl (XS.iloadN X116.here hx rfl (hb hby d_jdk_52_method_14_18) rfl kk_)))) ?_
  have A118 : Arv Z T116.heap b kb .char (3 : Int32) [(.int c0), (.int c1), (.int c2)] (.int (0 : Int32)) := (A112.keep p116_0 (ninS ne111 nin0))
  obtain ⟨cl119, Ar119, q119, S119, N119, H119, G119⟩ := id A118
  have hin119 : ¬ ((2 : Int32) < 0 ∨ cl119.slots.size ≤ (2 : Int32).toNatClampNeg) := inb_of S119 ⟨by decide, by decide⟩
  refine Fin.by (fun tt_ kk_ => X116.caload hx (j := (2 : Int32)) (v := (.int c2)) (Ar119.1) (State.isArrayOf_alike hZ.alike Ar119.2.1) Ar119.2.2 hin119 (Has.at H119 hin119 rfl) (g := (mkF m 19 #[.val (.ref b), .val (.int 2), .val (.int 3), .val (.ref t102), .val (.int 2)] [(.int 2), (.ref b), (.int 2), (.ref t102)])) rfl rfl (hb hby d_jdk_52_method_14_19) _ kk_) ?_
  have O120 : Old Z n0 T116.heap := (O114.keep p116_0 (allS g106 all0))
  have z121 : n0 ≤ T116.heap.size := Nat.le_trans z115 p116_0.1
  obtain ⟨v122, _, ⟨T122, L122, k122, n122⟩, -, X122, ⟨Lc122, hQ122, l122, y122, z122⟩, st122⟩ := Jvm.LawKit.callS X116 hx (y := y_10) hown (mvT hZ (w_ hw 89 rfl)) (mvT hZ (w_ hw 90 rfl)) (mvT hZ (w_ hw 71 rfl)) (mvT hZ (w_ hw 91 rfl)) (by decide) (backOf (W := 0) (rm_pch2 l Z a0 hw [] t102 k103 (6 : Int32) ([(.int (((c0 >>> ((0 : Int32) &&& 31)).toInt8.toInt32).toInt8.toInt32)), (.int (((c0 >>> ((8 : Int32) &&& 31)).toInt8.toInt32).toInt8.toInt32)), (.int (((c1 >>> ((0 : Int32) &&& 31)).toInt8.toInt32).toInt8.toInt32)), (.int (((c1 >>> ((8 : Int32) &&& 31)).toInt8.toInt32).toInt8.toInt32)), (.int (0 : Int32)), (.int (0 : Int32))] : List Value) c2 T116.heap n0 z121 (Nat.le_of_ble_eq_true rfl) (Nat.le_of_ble_eq_true rfl) (by decide) (by decide) V117 g106 S6 S7 S8 O120) hZ (w_ hw 91 rfl) (w_ hw 71 rfl) (by decide) (by decide)) (g := (mkF m 20 #[.val (.ref b), .val (.int 2), .val (.int 3), .val (.ref t102), .val (.int 2)] [(.int c2), (.int 2), (.ref t102)])) rfl (by rw [hml]; rfl) (argsL := [(.ref t102), (.int 2), (.int c2)]) (rest := []) (lenOf pd_172 rfl) rfl (by show 2 * 0 + _ ≤ _; exact Nat.le_of_eq rfl) (hb hby d_jdk_52_method_14_20) (fun _ _ => ⟨rfl, rfl, (by decide : 1 + 0 ≤ _), (by decide : 6 + 0 ≤ _)⟩)
  dsimp only [Pt.U, Pt.locs, Pt.cells, Pt.slots] at X122 l122 y122 z122 st122 hQ122
  subst l122 y122 z122
  obtain ⟨rfl, Nq122, p122_0, p122_1⟩ := hQ122
  have N122_ := Fr.app N116_ Nq122
  refine Fin.by (fun tt_ kk_ => st122 tt_ kk_) ?_
  have V123 : Arv Z T122.heap t102 k103 .byte (6 : Int32) [(.int (((c0 >>> ((0 : Int32) &&& 31)).toInt8.toInt32).toInt8.toInt32)), (.int (((c0 >>> ((8 : Int32) &&& 31)).toInt8.toInt32).toInt8.toInt32)), (.int (((c1 >>> ((0 : Int32) &&& 31)).toInt8.toInt32).toInt8.toInt32)), (.int (((c1 >>> ((8 : Int32) &&& 31)).toInt8.toInt32).toInt8.toInt32)), (.int (((c2 >>> ((0 : Int32) &&& 31)).toInt8.toInt32).toInt8.toInt32)), (.int (((c2 >>> ((8 : Int32) &&& 31)).toInt8.toInt32).toInt8.toInt32))] (.int (0 : Int32)) := p122_1
  refine Fin.by (fun tt_ kk_ => XS.iinc X122.here hx rfl (hb hby d_jdk_52_method_14_23) rfl (l' := #[.val (.ref b), .val (.int 3), .val (.int 3), .val (.ref t102), .val (.int 2)]) rfl (XS.iinc X122.here hx rfl (hb hby d_jdk_52_method_14_26) rfl (l' := #[.val (.ref b), .val (.int 3), .val (.int 3), .val (.ref t102), .val (.int 3)]) rfl (XS.goto X122.here hx rfl (pc0 := 29) (pc' := 8) rfl (hb hby d_jdk_52_method_14_29) (by decide) (by decide) (XS.iload X122.here hx rfl (hb hby d_jdk_52_method_14_8) rfl (XS.iloadN X122.here hx rfl (hb hby d_jdk_52_method_14_10) rfl kk_))))) ?_
  show Fin _ _ _ _ _ _ _ (T122.setTop (mkF m 11 #[.val (.ref b), .val (.int 3), .val (.int 3), .val (.ref t102), .val (.int 3)] [(.int 3), (.int 3)]))
  refine Fin.by (fun tt_ kk_ => XS.icmpYes X122.here hx rfl (pc0 := 11) (pc' := 32) rfl (hb hby d_jdk_52_method_14_11) rfl (flt (by decide : ¬ (3 : Int32) < (3 : Int32))).2.1 (by decide) (by decide) kk_) ?_
  refine Fin.by (fun tt_ kk_ => XS.aloadN X122.here hx rfl (hb hby d_jdk_52_method_14_32) rfl rfl kk_) ?_
  have kp124 : Keep h0 T101.heap [] := (Keep.refl h0 []).trans p101_0 all0
  have kp125 : Keep h0 T109.heap [] := kp124.trans p109_0 (allS (Or.inr (Nat.le_trans (Nat.le_refl _) p101_1)) all0)
  have kp126 : Keep h0 T116.heap [] := kp125.trans p116_0 (allS (Or.inr (Nat.le_trans (Nat.le_refl _) p101_1)) all0)
  have kp127 : Keep h0 T122.heap [] := kp126.trans p122_0 (allS (Or.inr (Nat.le_trans (Nat.le_refl _) p101_1)) all0)
  show Fin _ _ _ _ _ _ _ (T122.setTop (mkF m 33 #[.val (.ref b), .val (.int 3), .val (.int 3), .val (.ref t102), .val (.int 3)] [(.ref t102)]))
  exact Fin.ret (v := some (.ref t102)) X122 (fun h => by rw [Bd.returns] at h; cases h) Bd.notSynchronized (⟨t102, k103, rfl, N122_, kp127, (Nat.le_trans (Nat.le_refl _) p101_1), V123⟩) (by decide) (by decide) (fun fs hr => retA X122 hx Bd.returns rfl rfl (hb hby d_jdk_52_method_14_33) hr)
def Q_c3_3 (Z : State) (b : Addr) (kb : ClassId) (c0 : Int32) (c1 : Int32) (c2 : Int32) (h0 : Heap) (n0 : Nat) (vv_ : Option Value) (hh_ : Heap) (LL_ : List Loc) : Prop := ∃ (t : Addr), ∃ (k : ClassId), ∃ (cd : Int32), ∃ (N2 : Int32), ∃ (vs : List Value), vv_ = some (.ref t) ∧ Fr n0 LL_ ∧ Keep h0 hh_ [] ∧ h0.size ≤ t ∧ Arv Z hh_ t k .byte N2 vs (.int (0 : Int32)) ∧ (StrChars.Road.CodA ([c0, c1, c2] : List Int32) cd N2 vs)
set_option maxRecDepth 65536 in
set_option maxHeartbeats 40000000 in
theorem rm_c3_3 (l : Launch) (Z : State) (a0 : Array Value) (hw : ∀ d ∈ tables_1, d.before a0 Z = true) (ws : List Jvm.Cond) (b : Addr) (kb : ClassId) (c0 : Int32) (c1 : Int32) (c2 : Int32) (h0 : Heap) (n0 : Nat) (Z0 : n0 ≤ h0.size) (Ab : Arv Z h0 b kb .char (3 : Int32) [(.int c0), (.int c1), (.int c2)] (.int (0 : Int32))) (hb_0 : ¬ c0 < 0 ∧ ¬ (65535 : Int32) < c0) (hb_1 : ¬ c1 < 0 ∧ ¬ (65535 : Int32) < c1) (hb_2 : ¬ c2 < 0 ∧ ¬ (65535 : Int32) < c2) (S6 : Sta Z Z.heap "java/lang/StringUTF16" "$assertionsDisabled" "Z" (.int (1 : Int32))) (S7 : Sta Z Z.heap "java/lang/StringUTF16" "HI_BYTE_SHIFT" "I" (.int (0 : Int32))) (S8 : Sta Z Z.heap "java/lang/StringUTF16" "LO_BYTE_SHIFT" "I" (.int (8 : Int32))) (OL : Old Z n0 h0) :
    MetFree l (⟨"java/lang/StringUTF16", "compress", "([CII)[B"⟩ : MethodName) (head1 (Jvm.Cond.code (⟨"java/lang/StringUTF16", "compress", "([CII)[B"⟩ : MethodName) jdk_52_method_16_code 6 (some (.array .byte)) :: ws) ({ frames := 3, cells := 2, slots := 9, locals := 40 } : Room)) (fun aa_ U => aa_ = #[(.ref b), (.int (0 : Int32)), (.int (3 : Int32))] ∧ Z.Warmed39 U.vm ∧ U.heap = h0) (fun _ _ _ _ _ => True) (fun _ U o U' => ∃ vv_ LL_, o = .returned vv_ ∧ Q_c3_3 Z b kb c0 c1 c2 h0 n0 vv_ U'.heap LL_ ∧ FrameEnd U o U' LL_ 2 9) := by
  refine MetFree.of_bodySF (plainFor_of_name pn_java_lang_StringUTF16) hisR ?_
  intro p e s m args below meth c s₁ Bd hml0 hP hK
  obtain ⟨rfl, hZ, hh⟩ := hP
  have hx := Bd.exec
  have hby := Bd.bytes
  have hml : c.maxLocals = 6 := hml0
  have hown : s.vm.findClass "java/lang/StringUTF16" = some m.cls := findClass_of_methodNamed Bd.named
  have hnm := (name_of_methodNamed Bd.named Bd.method).1
  have X0 : Stand p l e ({ frames := 3, cells := 2, slots := 9, locals := 40 } : Room) s m #[(.ref b), (.int (0 : Int32)), (.int (3 : Int32))] below meth c s₁ [] 0 0 := Stand.of_body Bd
  have e0 : s₁.heap = h0 := by rw [← hh, Bd.state]; rfl
  have N0 := Fr.nil n0
  have ef : entryFrame m #[(.ref b), (.int (0 : Int32)), (.int (3 : Int32))] 6 = mkF m 0 #[.val (.ref b), .val (.int (0 : Int32)), .val (.int (3 : Int32)), .unset, .unset, .unset] [] := by first | (simp [entryFrame, mkF, argsToLocals, Value.category]; done) | rfl
  refine Fin.start (Q := Q_c3_3 Z b kb c0 c1 c2 h0 n0) ef ?_
  refine Fin.by (fun tt_ kk_ => XS.iloadN X0.here hx rfl (hb hby d_jdk_52_method_16_0) rfl kk_) ?_
  obtain ⟨T101, h101, k101, X101, e101, E101, A101, st101⟩ := newP X0 hx hZ (w_ hw 21 rfl) e0 (g := (mkF m 1 #[.val (.ref b), .val (.int 0), .val (.int 3), .unset, .unset, .unset] [(.int 3)])) rfl (hb hby d_jdk_52_method_16_1) rfl (by decide) (cap := 3) (by decide) (by decide) (by decide) (by decide)
  obtain ⟨a101, g101⟩ : ∃ z, z = h0.size := ⟨_, rfl⟩
  rw [← g101] at A101 st101
  refine Fin.by (fun tt_ kk_ => st101 tt_ kk_) ?_
  have V101 : Arv Z h101 a101 k101 .byte (3 : Int32) [(.int (0 : Int32)), (.int (0 : Int32)), (.int (0 : Int32))] (.int (0 : Int32)) := (Arv.new A101 (by decide)).pad (pad_rep [] (.int (0 : Int32)) 3)
  refine Fin.by (fun tt_ kk_ => XS.astoreN X101.here hx rfl (hb hby d_jdk_52_method_16_3) rfl rfl (l' := #[.val (.ref b), .val (.int 0), .val (.int 3), .val (.ref a101), .unset, .unset]) rfl (XS.aloadN X101.here hx rfl (hb hby d_jdk_52_method_16_4) rfl rfl (XS.iloadN X101.here hx rfl (hb hby d_jdk_52_method_16_5) rfl (XS.aloadN X101.here hx rfl (hb hby d_jdk_52_method_16_6) rfl rfl (XS.iconst X101.here hx rfl (hb hby d_jdk_52_method_16_7) (XS.iloadN X101.here hx rfl (hb hby d_jdk_52_method_16_8) rfl kk_)))))) ?_
  have A102 : Arv Z h101 b kb .char (3 : Int32) [(.int c0), (.int c1), (.int c2)] (.int (0 : Int32)) := (Ab.ext E101)
  have g103 : n0 ≤ a101 := Nat.le_trans Z0 (Nat.le_of_eq g101.symm)
  have ne104 : b ≠ a101 := Nat.ne_of_lt (Nat.lt_of_lt_of_le Ab.lt (Nat.le_of_eq g101.symm))
  have z105 : n0 ≤ h101.size := Nat.le_trans Z0 E101.1
  obtain ⟨v106, _, ⟨T106, L106, k106, n106⟩, -, X106, ⟨Lc106, hQ106, l106, y106, z106⟩, st106⟩ := Jvm.LawKit.callS X101 hx (y := y_11) hown (mvT hZ (w_ hw 73 rfl)) (mvT hZ (w_ hw 74 rfl)) (mvT hZ (w_ hw 71 rfl)) (mvT hZ (w_ hw 75 rfl)) (by decide) (backOf (W := 0) (rm_c5_3 l Z a0 hw [] b kb a101 k101 c0 c1 c2 h101 n0 z105 A102 V101 g103 ne104) hZ (w_ hw 75 rfl) (w_ hw 71 rfl) (by decide) (by decide)) (g := (mkF m 9 #[.val (.ref b), .val (.int 0), .val (.int 3), .val (.ref a101), .unset, .unset] [(.int 3), (.int 0), (.ref a101), (.int 0), (.ref b)])) rfl (by rw [hml]; rfl) (argsL := [(.ref b), (.int 0), (.ref a101), (.int 0), (.int 3)]) (rest := []) (lenOf pd_187 rfl) rfl (by show 2 * 0 + _ ≤ _; exact Nat.le_of_eq rfl) (hb hby d_jdk_52_method_16_9) (fun _ _ => ⟨rfl, e101, (by decide : 1 + 0 ≤ _), (by decide : 3 + 0 ≤ _)⟩)
  dsimp only [Pt.U, Pt.locs, Pt.cells, Pt.slots] at X106 l106 y106 z106 st106 hQ106
  subst l106 y106 z106
  obtain ⟨r107, vs108, rfl, Nq106, p106_0, p106_1, p106_2⟩ := hQ106
  have N106_ := Fr.app N0 Nq106
  refine Fin.by (fun tt_ kk_ => st106 tt_ kk_) ?_
  rcases p106_2 with ⟨hr, hvs, hx_0, hx_1, hx_2⟩ | ⟨hr, hx_0⟩ | ⟨hr, hx_1⟩ | ⟨hr, hx_2⟩
  · subst hr
    subst hvs
    refine Fin.by (fun tt_ kk_ => XS.istore X106.here hx rfl (hb hby d_jdk_52_method_16_12) rfl (l' := #[.val (.ref b), .val (.int 0), .val (.int 3), .val (.ref a101), .val (.int 3), .unset]) rfl (XS.iload X106.here hx rfl (hb hby d_jdk_52_method_16_14) rfl (XS.iloadN X106.here hx rfl (hb hby d_jdk_52_method_16_16) rfl kk_))) ?_
    show Fin _ _ _ _ _ _ _ (T106.setTop (mkF m 17 #[.val (.ref b), .val (.int 0), .val (.int 3), .val (.ref a101), .val (.int 3), .unset] [(.int 3), (.int 3)]))
    refine Fin.by (fun tt_ kk_ => XS.icmpYes X106.here hx rfl (pc0 := 17) (pc' := 57) rfl (hb hby d_jdk_52_method_16_17) rfl (teq (rfl : (3 : Int32) = (3 : Int32))).1 (by decide) (by decide) kk_) ?_
    refine Fin.by (fun tt_ kk_ => XS.aloadN X106.here hx rfl (hb hby d_jdk_52_method_16_57) rfl rfl kk_) ?_
    have kp109 : Keep h0 h101 [] := (Keep.refl h0 []).ext E101
    have kp110 : Keep h0 T106.heap [] := kp109.trans p106_0 (allS (Or.inr (Nat.le_trans (Nat.le_refl _) (Nat.le_of_eq g101.symm))) all0)
    show Fin _ _ _ _ _ _ _ (T106.setTop (mkF m 58 #[.val (.ref b), .val (.int 0), .val (.int 3), .val (.ref a101), .val (.int 3), .unset] [(.ref a101)]))
    exact Fin.ret (v := some (.ref a101)) X106 (fun h => by rw [Bd.returns] at h; cases h) Bd.notSynchronized (⟨a101, k101, (0 : Int32), (3 : Int32), [(.int ((c0.toInt8.toInt32).toInt8.toInt32)), (.int ((c1.toInt8.toInt32).toInt8.toInt32)), (.int ((c2.toInt8.toInt32).toInt8.toInt32))], rfl, N106_, kp110, (Nat.le_trans (Nat.le_refl _) (Nat.le_of_eq g101.symm)), p106_1, (Or.inl ⟨rfl, rfl, by simp [StrChars.lo8], (own_cons hx_0 (own_cons hx_1 (own_cons hx_2 own_nil)))⟩)⟩) (by decide) (by decide) (fun fs hr => retA X106 hx Bd.returns rfl rfl (hb hby d_jdk_52_method_16_58) hr)
  · subst hr
    refine Fin.by (fun tt_ kk_ => XS.istore X106.here hx rfl (hb hby d_jdk_52_method_16_12) rfl (l' := #[.val (.ref b), .val (.int 0), .val (.int 3), .val (.ref a101), .val (.int 0), .unset]) rfl (XS.iload X106.here hx rfl (hb hby d_jdk_52_method_16_14) rfl (XS.iloadN X106.here hx rfl (hb hby d_jdk_52_method_16_16) rfl kk_))) ?_
    show Fin _ _ _ _ _ _ _ (T106.setTop (mkF m 17 #[.val (.ref b), .val (.int 0), .val (.int 3), .val (.ref a101), .val (.int 0), .unset] [(.int 3), (.int 0)]))
    refine Fin.by (fun tt_ kk_ => XS.icmpNo X106.here hx rfl (hb hby d_jdk_52_method_16_17) rfl (feq (by decide : ¬ (0 : Int32) = (3 : Int32))).1 kk_) ?_
    refine Fin.by (fun tt_ kk_ => XS.aloadN X106.here hx rfl (hb hby d_jdk_52_method_16_20) rfl rfl (XS.iloadN X106.here hx rfl (hb hby d_jdk_52_method_16_21) rfl (XS.iloadN X106.here hx rfl (hb hby d_jdk_52_method_16_22) rfl kk_))) ?_
    have A111 : Arv Z T106.heap b kb .char (3 : Int32) [(.int c0), (.int c1), (.int c2)] (.int (0 : Int32)) := (A102.keep p106_0 (ninS ne104 nin0))
    have O112 : Old Z n0 T106.heap := ((OL.ext E101).keep p106_0 (allS g103 all0))
    have z113 : n0 ≤ T106.heap.size := Nat.le_trans z105 p106_0.1
    obtain ⟨v114, _, ⟨T114, L114, k114, n114⟩, -, X114, ⟨Lc114, hQ114, l114, y114, z114⟩, st114⟩ := Jvm.LawKit.callS X106 hx (y := y_12) hown (mvT hZ (w_ hw 79 rfl)) (mvT hZ (w_ hw 80 rfl)) (mvT hZ (w_ hw 71 rfl)) (mvT hZ (w_ hw 81 rfl)) (by decide) (backOf (W := 0) (rm_tob_3 l Z a0 hw [] b kb c0 c1 c2 T106.heap n0 z113 A111 S6 S7 S8 O112) hZ (w_ hw 81 rfl) (w_ hw 71 rfl) (by decide) (by decide)) (g := (mkF m 23 #[.val (.ref b), .val (.int 0), .val (.int 3), .val (.ref a101), .val (.int 0), .unset] [(.int 3), (.int 0), (.ref b)])) rfl (by rw [hml]; rfl) (argsL := [(.ref b), (.int 0), (.int 3)]) (rest := []) (lenOf pd_198 rfl) rfl (by show 2 * 0 + _ ≤ _; exact Nat.le_of_eq rfl) (hb hby d_jdk_52_method_16_23) (fun _ _ => ⟨rfl, rfl, (by decide : 1 + 1 ≤ _), (by decide : 3 + 6 ≤ _)⟩)
    dsimp only [Pt.U, Pt.locs, Pt.cells, Pt.slots] at X114 l114 y114 z114 st114 hQ114
    subst l114 y114 z114
    obtain ⟨t115, k116, rfl, Nq114, p114_0, p114_1, p114_2⟩ := hQ114
    have N114_ := Fr.app N106_ Nq114
    refine Fin.by (fun tt_ kk_ => st114 tt_ kk_) ?_
    refine Fin.by (fun tt_ kk_ => XS.astore X114.here hx rfl (hb hby d_jdk_52_method_16_26) rfl rfl (l' := #[.val (.ref b), .val (.int 0), .val (.int 3), .val (.ref a101), .val (.int 0), .val (.ref t115)]) rfl (XS.aload X114.here hx rfl (hb hby d_jdk_52_method_16_28) rfl rfl (XS.iload X114.here hx rfl (hb hby d_jdk_52_method_16_30) rfl kk_))) ?_
    have O117 : Old Z n0 T114.heap := (O112.keep p114_0 all0)
    have z118 : n0 ≤ T114.heap.size := Nat.le_trans z113 p114_0.1
    obtain ⟨v119, _, ⟨T119, L119, k119, n119⟩, -, X119, ⟨Lc119, hQ119, l119, y119, z119⟩, st119⟩ := Jvm.LawKit.callS X114 hx (y := y_4) hown (mvT hZ (w_ hw 95 rfl)) (mvT hZ (w_ hw 96 rfl)) (mvT hZ (w_ hw 71 rfl)) (mvT hZ (w_ hw 97 rfl)) (by decide) (backOf (W := 0) (rm_uge l Z a0 hw [] t115 k116 (6 : Int32) ([(.int (((c0 >>> ((0 : Int32) &&& 31)).toInt8.toInt32).toInt8.toInt32)), (.int (((c0 >>> ((8 : Int32) &&& 31)).toInt8.toInt32).toInt8.toInt32)), (.int (((c1 >>> ((0 : Int32) &&& 31)).toInt8.toInt32).toInt8.toInt32)), (.int (((c1 >>> ((8 : Int32) &&& 31)).toInt8.toInt32).toInt8.toInt32)), (.int (((c2 >>> ((0 : Int32) &&& 31)).toInt8.toInt32).toInt8.toInt32)), (.int (((c2 >>> ((8 : Int32) &&& 31)).toInt8.toInt32).toInt8.toInt32))] : List Value) 0 (0 : Int32) (((c0 >>> ((0 : Int32) &&& 31)).toInt8.toInt32).toInt8.toInt32) (((c0 >>> ((8 : Int32) &&& 31)).toInt8.toInt32).toInt8.toInt32) T114.heap n0 z118 rfl (by decide) (by decide) rfl rfl p114_2 S6 S7 S8 O117) hZ (w_ hw 97 rfl) (w_ hw 71 rfl) (by decide) (by decide)) (g := (mkF m 32 #[.val (.ref b), .val (.int 0), .val (.int 3), .val (.ref a101), .val (.int 0), .val (.ref t115)] [(.int 0), (.ref t115)])) rfl (by rw [hml]; rfl) (argsL := [(.ref t115), (.int 0)]) (rest := []) (lenOf pd_71 rfl) rfl (by show 2 * 0 + _ ≤ _; exact Nat.le_of_eq rfl) (hb hby d_jdk_52_method_16_32) (fun _ _ => ⟨rfl, rfl, (by decide : 2 + 0 ≤ _), (by decide : 9 + 0 ≤ _)⟩)
    dsimp only [Pt.U, Pt.locs, Pt.cells, Pt.slots] at X119 l119 y119 z119 st119 hQ119
    subst l119 y119 z119
    obtain ⟨rfl, Nq119, e119_⟩ := hQ119
    have N119_ := Fr.app N114_ Nq119
    refine Fin.by (fun tt_ kk_ => st119 tt_ kk_) ?_
    have e119 := e119_
    refine Fin.by (fun tt_ kk_ => XS.sipush X119.here hx rfl (hb hby d_jdk_52_method_16_35) kk_) ?_
    show Fin _ _ _ _ _ _ _ (T119.setTop (mkF m 38 #[.val (.ref b), .val (.int 0), .val (.int 3), .val (.ref a101), .val (.int 0), .val (.ref t115)] [(.int 255), (.int (nar .char (StrChars.pairCh (((c0 >>> (0 &&& 31)).toInt8.toInt32).toInt8.toInt32) (((c0 >>> (8 &&& 31)).toInt8.toInt32).toInt8.toInt32))))]))
    refine Fin.by (fun tt_ kk_ => XS.icmpYes X119.here hx rfl (pc0 := 38) (pc' := 54) rfl (hb hby d_jdk_52_method_16_38) rfl (tlt (by rw [own_pw hb_0]; exact hx_0 : (255 : Int32) < (nar .char (StrChars.pairCh (((c0 >>> ((0 : Int32) &&& 31)).toInt8.toInt32).toInt8.toInt32) (((c0 >>> ((8 : Int32) &&& 31)).toInt8.toInt32).toInt8.toInt32))))).2.2.1 (by decide) (by decide) kk_) ?_
    refine Fin.by (fun tt_ kk_ => XS.aload X119.here hx rfl (hb hby d_jdk_52_method_16_54) rfl rfl kk_) ?_
    have kp120 : Keep h0 h101 [] := (Keep.refl h0 []).ext E101
    have kp121 : Keep h0 T106.heap [] := kp120.trans p106_0 (allS (Or.inr (Nat.le_trans (Nat.le_refl _) (Nat.le_of_eq g101.symm))) all0)
    have kp122 : Keep h0 T114.heap [] := kp121.trans p114_0 all0
    show Fin _ _ _ _ _ _ _ (T119.setTop (mkF m 56 #[.val (.ref b), .val (.int 0), .val (.int 3), .val (.ref a101), .val (.int 0), .val (.ref t115)] [(.ref t115)]))
    exact Fin.ret (v := some (.ref t115)) X119 (fun h => by rw [Bd.returns] at h; cases h) Bd.notSynchronized (by rw [e119]; exact ⟨t115, k116, (1 : Int32), (6 : Int32), [(.int (((c0 >>> ((0 : Int32) &&& 31)).toInt8.toInt32).toInt8.toInt32)), (.int (((c0 >>> ((8 : Int32) &&& 31)).toInt8.toInt32).toInt8.toInt32)), (.int (((c1 >>> ((0 : Int32) &&& 31)).toInt8.toInt32).toInt8.toInt32)), (.int (((c1 >>> ((8 : Int32) &&& 31)).toInt8.toInt32).toInt8.toInt32)), (.int (((c2 >>> ((0 : Int32) &&& 31)).toInt8.toInt32).toInt8.toInt32)), (.int (((c2 >>> ((8 : Int32) &&& 31)).toInt8.toInt32).toInt8.toInt32))], rfl, N119_, kp122, (Nat.le_trans (Nat.le_trans E101.1 p106_0.1) p114_1), p114_2, (Or.inr ⟨rfl, rfl, by simp only [StrChars.Road.wideBytes, own_raw_lo, own_raw_hi], ⟨c0, by simp, hx_0⟩⟩)⟩) (by decide) (by decide) (fun fs hr => retA X119 hx Bd.returns rfl rfl (hb hby d_jdk_52_method_16_56) hr)
  · subst hr
    refine Fin.by (fun tt_ kk_ => XS.istore X106.here hx rfl (hb hby d_jdk_52_method_16_12) rfl (l' := #[.val (.ref b), .val (.int 0), .val (.int 3), .val (.ref a101), .val (.int 1), .unset]) rfl (XS.iload X106.here hx rfl (hb hby d_jdk_52_method_16_14) rfl (XS.iloadN X106.here hx rfl (hb hby d_jdk_52_method_16_16) rfl kk_))) ?_
    show Fin _ _ _ _ _ _ _ (T106.setTop (mkF m 17 #[.val (.ref b), .val (.int 0), .val (.int 3), .val (.ref a101), .val (.int 1), .unset] [(.int 3), (.int 1)]))
    refine Fin.by (fun tt_ kk_ => XS.icmpNo X106.here hx rfl (hb hby d_jdk_52_method_16_17) rfl (feq (by decide : ¬ (1 : Int32) = (3 : Int32))).1 kk_) ?_
    refine Fin.by (fun tt_ kk_ => XS.aloadN X106.here hx rfl (hb hby d_jdk_52_method_16_20) rfl rfl (XS.iloadN X106.here hx rfl (hb hby d_jdk_52_method_16_21) rfl (XS.iloadN X106.here hx rfl (hb hby d_jdk_52_method_16_22) rfl kk_))) ?_
    have A123 : Arv Z T106.heap b kb .char (3 : Int32) [(.int c0), (.int c1), (.int c2)] (.int (0 : Int32)) := (A102.keep p106_0 (ninS ne104 nin0))
    have O124 : Old Z n0 T106.heap := ((OL.ext E101).keep p106_0 (allS g103 all0))
    have z125 : n0 ≤ T106.heap.size := Nat.le_trans z105 p106_0.1
    obtain ⟨v126, _, ⟨T126, L126, k126, n126⟩, -, X126, ⟨Lc126, hQ126, l126, y126, z126⟩, st126⟩ := Jvm.LawKit.callS X106 hx (y := y_12) hown (mvT hZ (w_ hw 79 rfl)) (mvT hZ (w_ hw 80 rfl)) (mvT hZ (w_ hw 71 rfl)) (mvT hZ (w_ hw 81 rfl)) (by decide) (backOf (W := 0) (rm_tob_3 l Z a0 hw [] b kb c0 c1 c2 T106.heap n0 z125 A123 S6 S7 S8 O124) hZ (w_ hw 81 rfl) (w_ hw 71 rfl) (by decide) (by decide)) (g := (mkF m 23 #[.val (.ref b), .val (.int 0), .val (.int 3), .val (.ref a101), .val (.int 1), .unset] [(.int 3), (.int 0), (.ref b)])) rfl (by rw [hml]; rfl) (argsL := [(.ref b), (.int 0), (.int 3)]) (rest := []) (lenOf pd_198 rfl) rfl (by show 2 * 0 + _ ≤ _; exact Nat.le_of_eq rfl) (hb hby d_jdk_52_method_16_23) (fun _ _ => ⟨rfl, rfl, (by decide : 1 + 1 ≤ _), (by decide : 3 + 6 ≤ _)⟩)
    dsimp only [Pt.U, Pt.locs, Pt.cells, Pt.slots] at X126 l126 y126 z126 st126 hQ126
    subst l126 y126 z126
    obtain ⟨t127, k128, rfl, Nq126, p126_0, p126_1, p126_2⟩ := hQ126
    have N126_ := Fr.app N106_ Nq126
    refine Fin.by (fun tt_ kk_ => st126 tt_ kk_) ?_
    refine Fin.by (fun tt_ kk_ => XS.astore X126.here hx rfl (hb hby d_jdk_52_method_16_26) rfl rfl (l' := #[.val (.ref b), .val (.int 0), .val (.int 3), .val (.ref a101), .val (.int 1), .val (.ref t127)]) rfl (XS.aload X126.here hx rfl (hb hby d_jdk_52_method_16_28) rfl rfl (XS.iload X126.here hx rfl (hb hby d_jdk_52_method_16_30) rfl kk_))) ?_
    have O129 : Old Z n0 T126.heap := (O124.keep p126_0 all0)
    have z130 : n0 ≤ T126.heap.size := Nat.le_trans z125 p126_0.1
    obtain ⟨v131, _, ⟨T131, L131, k131, n131⟩, -, X131, ⟨Lc131, hQ131, l131, y131, z131⟩, st131⟩ := Jvm.LawKit.callS X126 hx (y := y_4) hown (mvT hZ (w_ hw 95 rfl)) (mvT hZ (w_ hw 96 rfl)) (mvT hZ (w_ hw 71 rfl)) (mvT hZ (w_ hw 97 rfl)) (by decide) (backOf (W := 0) (rm_uge l Z a0 hw [] t127 k128 (6 : Int32) ([(.int (((c0 >>> ((0 : Int32) &&& 31)).toInt8.toInt32).toInt8.toInt32)), (.int (((c0 >>> ((8 : Int32) &&& 31)).toInt8.toInt32).toInt8.toInt32)), (.int (((c1 >>> ((0 : Int32) &&& 31)).toInt8.toInt32).toInt8.toInt32)), (.int (((c1 >>> ((8 : Int32) &&& 31)).toInt8.toInt32).toInt8.toInt32)), (.int (((c2 >>> ((0 : Int32) &&& 31)).toInt8.toInt32).toInt8.toInt32)), (.int (((c2 >>> ((8 : Int32) &&& 31)).toInt8.toInt32).toInt8.toInt32))] : List Value) 1 (1 : Int32) (((c1 >>> ((0 : Int32) &&& 31)).toInt8.toInt32).toInt8.toInt32) (((c1 >>> ((8 : Int32) &&& 31)).toInt8.toInt32).toInt8.toInt32) T126.heap n0 z130 rfl (by decide) (by decide) rfl rfl p126_2 S6 S7 S8 O129) hZ (w_ hw 97 rfl) (w_ hw 71 rfl) (by decide) (by decide)) (g := (mkF m 32 #[.val (.ref b), .val (.int 0), .val (.int 3), .val (.ref a101), .val (.int 1), .val (.ref t127)] [(.int 1), (.ref t127)])) rfl (by rw [hml]; rfl) (argsL := [(.ref t127), (.int 1)]) (rest := []) (lenOf pd_71 rfl) rfl (by show 2 * 0 + _ ≤ _; exact Nat.le_of_eq rfl) (hb hby d_jdk_52_method_16_32) (fun _ _ => ⟨rfl, rfl, (by decide : 2 + 0 ≤ _), (by decide : 9 + 0 ≤ _)⟩)
    dsimp only [Pt.U, Pt.locs, Pt.cells, Pt.slots] at X131 l131 y131 z131 st131 hQ131
    subst l131 y131 z131
    obtain ⟨rfl, Nq131, e131_⟩ := hQ131
    have N131_ := Fr.app N126_ Nq131
    refine Fin.by (fun tt_ kk_ => st131 tt_ kk_) ?_
    have e131 := e131_
    refine Fin.by (fun tt_ kk_ => XS.sipush X131.here hx rfl (hb hby d_jdk_52_method_16_35) kk_) ?_
    show Fin _ _ _ _ _ _ _ (T131.setTop (mkF m 38 #[.val (.ref b), .val (.int 0), .val (.int 3), .val (.ref a101), .val (.int 1), .val (.ref t127)] [(.int 255), (.int (nar .char (StrChars.pairCh (((c1 >>> (0 &&& 31)).toInt8.toInt32).toInt8.toInt32) (((c1 >>> (8 &&& 31)).toInt8.toInt32).toInt8.toInt32))))]))
    refine Fin.by (fun tt_ kk_ => XS.icmpYes X131.here hx rfl (pc0 := 38) (pc' := 54) rfl (hb hby d_jdk_52_method_16_38) rfl (tlt (by rw [own_pw hb_1]; exact hx_1 : (255 : Int32) < (nar .char (StrChars.pairCh (((c1 >>> ((0 : Int32) &&& 31)).toInt8.toInt32).toInt8.toInt32) (((c1 >>> ((8 : Int32) &&& 31)).toInt8.toInt32).toInt8.toInt32))))).2.2.1 (by decide) (by decide) kk_) ?_
    refine Fin.by (fun tt_ kk_ => XS.aload X131.here hx rfl (hb hby d_jdk_52_method_16_54) rfl rfl kk_) ?_
    have kp132 : Keep h0 h101 [] := (Keep.refl h0 []).ext E101
    have kp133 : Keep h0 T106.heap [] := kp132.trans p106_0 (allS (Or.inr (Nat.le_trans (Nat.le_refl _) (Nat.le_of_eq g101.symm))) all0)
    have kp134 : Keep h0 T126.heap [] := kp133.trans p126_0 all0
    show Fin _ _ _ _ _ _ _ (T131.setTop (mkF m 56 #[.val (.ref b), .val (.int 0), .val (.int 3), .val (.ref a101), .val (.int 1), .val (.ref t127)] [(.ref t127)]))
    exact Fin.ret (v := some (.ref t127)) X131 (fun h => by rw [Bd.returns] at h; cases h) Bd.notSynchronized (by rw [e131]; exact ⟨t127, k128, (1 : Int32), (6 : Int32), [(.int (((c0 >>> ((0 : Int32) &&& 31)).toInt8.toInt32).toInt8.toInt32)), (.int (((c0 >>> ((8 : Int32) &&& 31)).toInt8.toInt32).toInt8.toInt32)), (.int (((c1 >>> ((0 : Int32) &&& 31)).toInt8.toInt32).toInt8.toInt32)), (.int (((c1 >>> ((8 : Int32) &&& 31)).toInt8.toInt32).toInt8.toInt32)), (.int (((c2 >>> ((0 : Int32) &&& 31)).toInt8.toInt32).toInt8.toInt32)), (.int (((c2 >>> ((8 : Int32) &&& 31)).toInt8.toInt32).toInt8.toInt32))], rfl, N131_, kp134, (Nat.le_trans (Nat.le_trans E101.1 p106_0.1) p126_1), p126_2, (Or.inr ⟨rfl, rfl, by simp only [StrChars.Road.wideBytes, own_raw_lo, own_raw_hi], ⟨c1, by simp, hx_1⟩⟩)⟩) (by decide) (by decide) (fun fs hr => retA X131 hx Bd.returns rfl rfl (hb hby d_jdk_52_method_16_56) hr)
  · subst hr
    refine Fin.by (fun tt_ kk_ => XS.istore X106.here hx rfl (hb hby d_jdk_52_method_16_12) rfl (l' := #[.val (.ref b), .val (.int 0), .val (.int 3), .val (.ref a101), .val (.int 2), .unset]) rfl (XS.iload X106.here hx rfl (hb hby d_jdk_52_method_16_14) rfl (XS.iloadN X106.here hx rfl (hb hby d_jdk_52_method_16_16) rfl kk_))) ?_
    show Fin _ _ _ _ _ _ _ (T106.setTop (mkF m 17 #[.val (.ref b), .val (.int 0), .val (.int 3), .val (.ref a101), .val (.int 2), .unset] [(.int 3), (.int 2)]))
    refine Fin.by (fun tt_ kk_ => XS.icmpNo X106.here hx rfl (hb hby d_jdk_52_method_16_17) rfl (feq (by decide : ¬ (2 : Int32) = (3 : Int32))).1 kk_) ?_
    refine Fin.by (fun tt_ kk_ => XS.aloadN X106.here hx rfl (hb hby d_jdk_52_method_16_20) rfl rfl (XS.iloadN X106.here hx rfl (hb hby d_jdk_52_method_16_21) rfl (XS.iloadN X106.here hx rfl (hb hby d_jdk_52_method_16_22) rfl kk_))) ?_
    have A135 : Arv Z T106.heap b kb .char (3 : Int32) [(.int c0), (.int c1), (.int c2)] (.int (0 : Int32)) := (A102.keep p106_0 (ninS ne104 nin0))
    have O136 : Old Z n0 T106.heap := ((OL.ext E101).keep p106_0 (allS g103 all0))
    have z137 : n0 ≤ T106.heap.size := Nat.le_trans z105 p106_0.1
    obtain ⟨v138, _, ⟨T138, L138, k138, n138⟩, -, X138, ⟨Lc138, hQ138, l138, y138, z138⟩, st138⟩ := Jvm.LawKit.callS X106 hx (y := y_12) hown (mvT hZ (w_ hw 79 rfl)) (mvT hZ (w_ hw 80 rfl)) (mvT hZ (w_ hw 71 rfl)) (mvT hZ (w_ hw 81 rfl)) (by decide) (backOf (W := 0) (rm_tob_3 l Z a0 hw [] b kb c0 c1 c2 T106.heap n0 z137 A135 S6 S7 S8 O136) hZ (w_ hw 81 rfl) (w_ hw 71 rfl) (by decide) (by decide)) (g := (mkF m 23 #[.val (.ref b), .val (.int 0), .val (.int 3), .val (.ref a101), .val (.int 2), .unset] [(.int 3), (.int 0), (.ref b)])) rfl (by rw [hml]; rfl) (argsL := [(.ref b), (.int 0), (.int 3)]) (rest := []) (lenOf pd_198 rfl) rfl (by show 2 * 0 + _ ≤ _; exact Nat.le_of_eq rfl) (hb hby d_jdk_52_method_16_23) (fun _ _ => ⟨rfl, rfl, (by decide : 1 + 1 ≤ _), (by decide : 3 + 6 ≤ _)⟩)
    dsimp only [Pt.U, Pt.locs, Pt.cells, Pt.slots] at X138 l138 y138 z138 st138 hQ138
    subst l138 y138 z138
    obtain ⟨t139, k140, rfl, Nq138, p138_0, p138_1, p138_2⟩ := hQ138
    have N138_ := Fr.app N106_ Nq138
    refine Fin.by (fun tt_ kk_ => st138 tt_ kk_) ?_
    refine Fin.by (fun tt_ kk_ => XS.astore X138.here hx rfl (hb hby d_jdk_52_method_16_26) rfl rfl (l' := #[.val (.ref b), .val (.int 0), .val (.int 3), .val (.ref a101), .val (.int 2), .val (.ref t139)]) rfl (XS.aload X138.here hx rfl (hb hby d_jdk_52_method_16_28) rfl rfl (XS.iload X138.here hx rfl (hb hby d_jdk_52_method_16_30) rfl kk_))) ?_
    have O141 : Old Z n0 T138.heap := (O136.keep p138_0 all0)
    have z142 : n0 ≤ T138.heap.size := Nat.le_trans z137 p138_0.1
    obtain ⟨v143, _, ⟨T143, L143, k143, n143⟩, -, X143, ⟨Lc143, hQ143, l143, y143, z143⟩, st143⟩ := Jvm.LawKit.callS X138 hx (y := y_4) hown (mvT hZ (w_ hw 95 rfl)) (mvT hZ (w_ hw 96 rfl)) (mvT hZ (w_ hw 71 rfl)) (mvT hZ (w_ hw 97 rfl)) (by decide) (backOf (W := 0) (rm_uge l Z a0 hw [] t139 k140 (6 : Int32) ([(.int (((c0 >>> ((0 : Int32) &&& 31)).toInt8.toInt32).toInt8.toInt32)), (.int (((c0 >>> ((8 : Int32) &&& 31)).toInt8.toInt32).toInt8.toInt32)), (.int (((c1 >>> ((0 : Int32) &&& 31)).toInt8.toInt32).toInt8.toInt32)), (.int (((c1 >>> ((8 : Int32) &&& 31)).toInt8.toInt32).toInt8.toInt32)), (.int (((c2 >>> ((0 : Int32) &&& 31)).toInt8.toInt32).toInt8.toInt32)), (.int (((c2 >>> ((8 : Int32) &&& 31)).toInt8.toInt32).toInt8.toInt32))] : List Value) 2 (2 : Int32) (((c2 >>> ((0 : Int32) &&& 31)).toInt8.toInt32).toInt8.toInt32) (((c2 >>> ((8 : Int32) &&& 31)).toInt8.toInt32).toInt8.toInt32) T138.heap n0 z142 rfl (by decide) (by decide) rfl rfl p138_2 S6 S7 S8 O141) hZ (w_ hw 97 rfl) (w_ hw 71 rfl) (by decide) (by decide)) (g := (mkF m 32 #[.val (.ref b), .val (.int 0), .val (.int 3), .val (.ref a101), .val (.int 2), .val (.ref t139)] [(.int 2), (.ref t139)])) rfl (by rw [hml]; rfl) (argsL := [(.ref t139), (.int 2)]) (rest := []) (lenOf pd_71 rfl) rfl (by show 2 * 0 + _ ≤ _; exact Nat.le_of_eq rfl) (hb hby d_jdk_52_method_16_32) (fun _ _ => ⟨rfl, rfl, (by decide : 2 + 0 ≤ _), (by decide : 9 + 0 ≤ _)⟩)
    dsimp only [Pt.U, Pt.locs, Pt.cells, Pt.slots] at X143 l143 y143 z143 st143 hQ143
    subst l143 y143 z143
    obtain ⟨rfl, Nq143, e143_⟩ := hQ143
    have N143_ := Fr.app N138_ Nq143
    refine Fin.by (fun tt_ kk_ => st143 tt_ kk_) ?_
    have e143 := e143_
    refine Fin.by (fun tt_ kk_ => XS.sipush X143.here hx rfl (hb hby d_jdk_52_method_16_35) kk_) ?_
    show Fin _ _ _ _ _ _ _ (T143.setTop (mkF m 38 #[.val (.ref b), .val (.int 0), .val (.int 3), .val (.ref a101), .val (.int 2), .val (.ref t139)] [(.int 255), (.int (nar .char (StrChars.pairCh (((c2 >>> (0 &&& 31)).toInt8.toInt32).toInt8.toInt32) (((c2 >>> (8 &&& 31)).toInt8.toInt32).toInt8.toInt32))))]))
    refine Fin.by (fun tt_ kk_ => XS.icmpYes X143.here hx rfl (pc0 := 38) (pc' := 54) rfl (hb hby d_jdk_52_method_16_38) rfl (tlt (by rw [own_pw hb_2]; exact hx_2 : (255 : Int32) < (nar .char (StrChars.pairCh (((c2 >>> ((0 : Int32) &&& 31)).toInt8.toInt32).toInt8.toInt32) (((c2 >>> ((8 : Int32) &&& 31)).toInt8.toInt32).toInt8.toInt32))))).2.2.1 (by decide) (by decide) kk_) ?_
    refine Fin.by (fun tt_ kk_ => XS.aload X143.here hx rfl (hb hby d_jdk_52_method_16_54) rfl rfl kk_) ?_
    have kp144 : Keep h0 h101 [] := (Keep.refl h0 []).ext E101
    have kp145 : Keep h0 T106.heap [] := kp144.trans p106_0 (allS (Or.inr (Nat.le_trans (Nat.le_refl _) (Nat.le_of_eq g101.symm))) all0)
    have kp146 : Keep h0 T138.heap [] := kp145.trans p138_0 all0
    show Fin _ _ _ _ _ _ _ (T143.setTop (mkF m 56 #[.val (.ref b), .val (.int 0), .val (.int 3), .val (.ref a101), .val (.int 2), .val (.ref t139)] [(.ref t139)]))
    exact Fin.ret (v := some (.ref t139)) X143 (fun h => by rw [Bd.returns] at h; cases h) Bd.notSynchronized (by rw [e143]; exact ⟨t139, k140, (1 : Int32), (6 : Int32), [(.int (((c0 >>> ((0 : Int32) &&& 31)).toInt8.toInt32).toInt8.toInt32)), (.int (((c0 >>> ((8 : Int32) &&& 31)).toInt8.toInt32).toInt8.toInt32)), (.int (((c1 >>> ((0 : Int32) &&& 31)).toInt8.toInt32).toInt8.toInt32)), (.int (((c1 >>> ((8 : Int32) &&& 31)).toInt8.toInt32).toInt8.toInt32)), (.int (((c2 >>> ((0 : Int32) &&& 31)).toInt8.toInt32).toInt8.toInt32)), (.int (((c2 >>> ((8 : Int32) &&& 31)).toInt8.toInt32).toInt8.toInt32))], rfl, N143_, kp146, (Nat.le_trans (Nat.le_trans E101.1 p106_0.1) p138_1), p138_2, (Or.inr ⟨rfl, rfl, by simp only [StrChars.Road.wideBytes, own_raw_lo, own_raw_hi], ⟨c2, by simp, hx_2⟩⟩)⟩) (by decide) (by decide) (fun fs hr => retA X143 hx Bd.returns rfl rfl (hb hby d_jdk_52_method_16_56) hr)
def Q_cod_3_0 (Z : State) (t : Addr) (kt : ClassId) (vs : List Value) (h0 : Heap) (n0 : Nat) (vv_ : Option Value) (hh_ : Heap) (LL_ : List Loc) : Prop := vv_ = some (.int (nar .byte (0 : Int32))) ∧ Fr n0 LL_ ∧ hh_ = h0
set_option maxRecDepth 65536 in
set_option maxHeartbeats 40000000 in
theorem rm_cod_3_0 (l : Launch) (Z : State) (a0 : Array Value) (hw : ∀ d ∈ tables_1, d.before a0 Z = true) (ws : List Jvm.Cond) (t : Addr) (kt : ClassId) (vs : List Value) (h0 : Heap) (n0 : Nat) (Z0 : n0 ≤ h0.size) (A0 : Arv Z h0 t kt .byte (3 : Int32) vs (.int (0 : Int32))) :
    MetFree l (⟨"java/lang/StringUTF16", "coderFromArrayLen", "([BI)B"⟩ : MethodName) (head1 (Jvm.Cond.code (⟨"java/lang/StringUTF16", "coderFromArrayLen", "([BI)B"⟩ : MethodName) jdk_52_method_15_code 2 (some .byte) :: ws) ({ frames := 0, cells := 0, slots := 0, locals := 0 } : Room)) (fun aa_ U => aa_ = #[(.ref t), (.int (3 : Int32))] ∧ Z.Warmed39 U.vm ∧ U.heap = h0) (fun _ _ _ _ _ => True) (fun _ U o U' => ∃ vv_ LL_, o = .returned vv_ ∧ Q_cod_3_0 Z t kt vs h0 n0 vv_ U'.heap LL_ ∧ FrameEnd U o U' LL_ 0 0) := by
  refine MetFree.of_bodySF (plainFor_of_name pn_java_lang_StringUTF16) hisR ?_
  intro p e s m args below meth c s₁ Bd hml0 hP hK
  obtain ⟨rfl, hZ, hh⟩ := hP
  have hx := Bd.exec
  have hby := Bd.bytes
  have hml : c.maxLocals = 2 := hml0
  have hown : s.vm.findClass "java/lang/StringUTF16" = some m.cls := findClass_of_methodNamed Bd.named
  have hnm := (name_of_methodNamed Bd.named Bd.method).1
  have X0 : Stand p l e ({ frames := 0, cells := 0, slots := 0, locals := 0 } : Room) s m #[(.ref t), (.int (3 : Int32))] below meth c s₁ [] 0 0 := Stand.of_body Bd
  have e0 : s₁.heap = h0 := by rw [← hh, Bd.state]; rfl
  have N0 := Fr.nil n0
  have ef : entryFrame m #[(.ref t), (.int (3 : Int32))] 2 = mkF m 0 #[.val (.ref t), .val (.int (3 : Int32))] [] := by first | (simp [entryFrame, mkF, argsToLocals, Value.category]; done) | rfl
  refine Fin.start (Q := Q_cod_3_0 Z t kt vs h0 n0) ef ?_
  refine Fin.by (fun tt_ kk_ => XS.iloadN X0.here hx rfl (hb hby d_jdk_52_method_15_0) rfl (XS.aloadN X0.here hx rfl (hb hby d_jdk_52_method_15_1) rfl rfl kk_)) ?_
  obtain ⟨cl101, Ar101, q101, S101, N101, H101, G101⟩ := id A0
  refine Fin.by (fun tt_ kk_ => X0.arraylength hx (by rw [e0]; exact Ar101.1) (State.isArrayOf_alike hZ.alike Ar101.2.1) (g := (mkF m 2 #[.val (.ref t), .val (.int 3)] [(.ref t), (.int 3)])) rfl rfl (hb hby d_jdk_52_method_15_2) _ kk_) ?_
  rw [len_of S101 N101]
  refine Fin.by (fun tt_ kk_ => XS.isub X0.here hx rfl (hb hby d_jdk_52_method_15_3) rfl (XS.bipush X0.here hx rfl (hb hby d_jdk_52_method_15_4) (XS.iushr X0.here hx rfl (hb hby d_jdk_52_method_15_6) rfl (XS.i2b X0.here hx rfl (hb hby d_jdk_52_method_15_7) rfl kk_)))) ?_
  show Fin _ _ _ _ _ _ _ (s₁.setTop (mkF m 8 #[.val (.ref t), .val (.int 3)] [(.int 0)]))
  exact Fin.ret (v := some (.int (nar .byte (0 : Int32)))) X0 (fun h => by rw [Bd.returns] at h; cases h) Bd.notSynchronized (by rw [e0]; exact ⟨rfl, N0, rfl⟩) (by decide) (by decide) (fun fs hr => retN X0 hx (t := .byte) Bd.returns (by simp) (hb hby d_jdk_52_method_15_8) hr)
def Q_cod_3_1 (Z : State) (t : Addr) (kt : ClassId) (vs : List Value) (h0 : Heap) (n0 : Nat) (vv_ : Option Value) (hh_ : Heap) (LL_ : List Loc) : Prop := vv_ = some (.int (nar .byte (1 : Int32))) ∧ Fr n0 LL_ ∧ hh_ = h0
set_option maxRecDepth 65536 in
set_option maxHeartbeats 40000000 in
theorem rm_cod_3_1 (l : Launch) (Z : State) (a0 : Array Value) (hw : ∀ d ∈ tables_1, d.before a0 Z = true) (ws : List Jvm.Cond) (t : Addr) (kt : ClassId) (vs : List Value) (h0 : Heap) (n0 : Nat) (Z0 : n0 ≤ h0.size) (A0 : Arv Z h0 t kt .byte (6 : Int32) vs (.int (0 : Int32))) :
    MetFree l (⟨"java/lang/StringUTF16", "coderFromArrayLen", "([BI)B"⟩ : MethodName) (head1 (Jvm.Cond.code (⟨"java/lang/StringUTF16", "coderFromArrayLen", "([BI)B"⟩ : MethodName) jdk_52_method_15_code 2 (some .byte) :: ws) ({ frames := 0, cells := 0, slots := 0, locals := 0 } : Room)) (fun aa_ U => aa_ = #[(.ref t), (.int (3 : Int32))] ∧ Z.Warmed39 U.vm ∧ U.heap = h0) (fun _ _ _ _ _ => True) (fun _ U o U' => ∃ vv_ LL_, o = .returned vv_ ∧ Q_cod_3_1 Z t kt vs h0 n0 vv_ U'.heap LL_ ∧ FrameEnd U o U' LL_ 0 0) := by
  refine MetFree.of_bodySF (plainFor_of_name pn_java_lang_StringUTF16) hisR ?_
  intro p e s m args below meth c s₁ Bd hml0 hP hK
  obtain ⟨rfl, hZ, hh⟩ := hP
  have hx := Bd.exec
  have hby := Bd.bytes
  have hml : c.maxLocals = 2 := hml0
  have hown : s.vm.findClass "java/lang/StringUTF16" = some m.cls := findClass_of_methodNamed Bd.named
  have hnm := (name_of_methodNamed Bd.named Bd.method).1
  have X0 : Stand p l e ({ frames := 0, cells := 0, slots := 0, locals := 0 } : Room) s m #[(.ref t), (.int (3 : Int32))] below meth c s₁ [] 0 0 := Stand.of_body Bd
  have e0 : s₁.heap = h0 := by rw [← hh, Bd.state]; rfl
  have N0 := Fr.nil n0
  have ef : entryFrame m #[(.ref t), (.int (3 : Int32))] 2 = mkF m 0 #[.val (.ref t), .val (.int (3 : Int32))] [] := by first | (simp [entryFrame, mkF, argsToLocals, Value.category]; done) | rfl
  refine Fin.start (Q := Q_cod_3_1 Z t kt vs h0 n0) ef ?_
  refine Fin.by (fun tt_ kk_ => XS.iloadN X0.here hx rfl (hb hby d_jdk_52_method_15_0) rfl (XS.aloadN X0.here hx rfl (hb hby d_jdk_52_method_15_1) rfl rfl kk_)) ?_
  obtain ⟨cl101, Ar101, q101, S101, N101, H101, G101⟩ := id A0
  refine Fin.by (fun tt_ kk_ => X0.arraylength hx (by rw [e0]; exact Ar101.1) (State.isArrayOf_alike hZ.alike Ar101.2.1) (g := (mkF m 2 #[.val (.ref t), .val (.int 3)] [(.ref t), (.int 3)])) rfl rfl (hb hby d_jdk_52_method_15_2) _ kk_) ?_
  rw [len_of S101 N101]
  refine Fin.by (fun tt_ kk_ => XS.isub X0.here hx rfl (hb hby d_jdk_52_method_15_3) rfl (XS.bipush X0.here hx rfl (hb hby d_jdk_52_method_15_4) (XS.iushr X0.here hx rfl (hb hby d_jdk_52_method_15_6) rfl (XS.i2b X0.here hx rfl (hb hby d_jdk_52_method_15_7) rfl kk_)))) ?_
  show Fin _ _ _ _ _ _ _ (s₁.setTop (mkF m 8 #[.val (.ref t), .val (.int 3)] [(.int 1)]))
  exact Fin.ret (v := some (.int (nar .byte (1 : Int32)))) X0 (fun h => by rw [Bd.returns] at h; cases h) Bd.notSynchronized (by rw [e0]; exact ⟨rfl, N0, rfl⟩) (by decide) (by decide) (fun fs hr => retN X0 hx (t := .byte) Bd.returns (by simp) (hb hby d_jdk_52_method_15_8) hr)
def Q_n4_3 (Z : State) (a : Addr) (b : Addr) (kb : ClassId) (c0 : Int32) (c1 : Int32) (c2 : Int32) (G1 : Int32) (h0 : Heap) (n0 : Nat) (vv_ : Option Value) (hh_ : Heap) (LL_ : List Loc) : Prop := ∃ (t : Addr), ∃ (k : ClassId), ∃ (cd : Int32), ∃ (N2 : Int32), ∃ (vs : List Value), vv_ = none ∧ Fr n0 LL_ ∧ Keep h0 hh_ [a] ∧ h0.size ≤ t ∧ Exa Z hh_ a "java/lang/String" ∧ Fld Z hh_ a "java/lang/String" "value" "[B" (.ref t) ∧ Fld Z hh_ a "java/lang/String" "coder" "B" (.int cd) ∧ Arv Z hh_ t k .byte N2 vs (.int (0 : Int32)) ∧ (StrChars.Road.CodA ([c0, c1, c2] : List Int32) cd N2 vs)
set_option maxRecDepth 65536 in
set_option maxHeartbeats 40000000 in
theorem rm_n4_3 (l : Launch) (Z : State) (a0 : Array Value) (hw : ∀ d ∈ tables_1, d.before a0 Z = true) (ws : List Jvm.Cond) (a : Addr) (b : Addr) (kb : ClassId) (c0 : Int32) (c1 : Int32) (c2 : Int32) (G1 : Int32) (h0 : Heap) (n0 : Nat) (Z0 : n0 ≤ h0.size) (E0 : Exa Z h0 a "java/lang/String") (F0 : Fld Z h0 a "java/lang/String" "value" "[B" .null) (F1 : Fld Z h0 a "java/lang/String" "coder" "B" (.int (0 : Int32))) (ga : n0 ≤ a) (Ab : Arv Z h0 b kb .char (3 : Int32) [(.int c0), (.int c1), (.int c2)] (.int (0 : Int32))) (hb_0 : ¬ c0 < 0 ∧ ¬ (65535 : Int32) < c0) (hb_1 : ¬ c1 < 0 ∧ ¬ (65535 : Int32) < c1) (hb_2 : ¬ c2 < 0 ∧ ¬ (65535 : Int32) < c2) (S1 : Sta Z Z.heap "java/lang/String" "COMPACT_STRINGS" "Z" (.int G1)) (P1 : ¬ G1 = 0) (S6 : Sta Z Z.heap "java/lang/StringUTF16" "$assertionsDisabled" "Z" (.int (1 : Int32))) (S7 : Sta Z Z.heap "java/lang/StringUTF16" "HI_BYTE_SHIFT" "I" (.int (0 : Int32))) (S8 : Sta Z Z.heap "java/lang/StringUTF16" "LO_BYTE_SHIFT" "I" (.int (8 : Int32))) (OL : Old Z n0 h0) :
    MetFree l (⟨"java/lang/String", "<init>", "([CIILjava/lang/Void;)V"⟩ : MethodName) (head1 (Jvm.Cond.code (⟨"java/lang/String", "<init>", "([CIILjava/lang/Void;)V"⟩ : MethodName) jdk_42_method_149_code 6 none :: ws) ({ frames := 4, cells := 2, slots := 9, locals := 57 } : Room)) (fun aa_ U => aa_ = #[(.ref a), (.ref b), (.int (0 : Int32)), (.int (3 : Int32)), .null] ∧ Z.Warmed39 U.vm ∧ U.heap = h0) (fun _ _ _ _ _ => True) (fun _ U o U' => ∃ vv_ LL_, o = .returned vv_ ∧ Q_n4_3 Z a b kb c0 c1 c2 G1 h0 n0 vv_ U'.heap LL_ ∧ FrameEnd U o U' LL_ 2 9) := by
  refine MetFree.of_bodySF (plainFor_of_name pn_java_lang_String) hisR ?_
  intro p e s m args below meth c s₁ Bd hml0 hP hK
  obtain ⟨rfl, hZ, hh⟩ := hP
  have hx := Bd.exec
  have hby := Bd.bytes
  have hml : c.maxLocals = 6 := hml0
  have hown : s.vm.findClass "java/lang/String" = some m.cls := findClass_of_methodNamed Bd.named
  have hnm := (name_of_methodNamed Bd.named Bd.method).1
  have X0 : Stand p l e ({ frames := 4, cells := 2, slots := 9, locals := 57 } : Room) s m #[(.ref a), (.ref b), (.int (0 : Int32)), (.int (3 : Int32)), .null] below meth c s₁ [] 0 0 := Stand.of_body Bd
  have e0 : s₁.heap = h0 := by rw [← hh, Bd.state]; rfl
  have N0 := Fr.nil n0
  have ef : entryFrame m #[(.ref a), (.ref b), (.int (0 : Int32)), (.int (3 : Int32)), .null] 6 = mkF m 0 #[.val (.ref a), .val (.ref b), .val (.int (0 : Int32)), .val (.int (3 : Int32)), .val .null, .unset] [] := by first | (simp [entryFrame, mkF, argsToLocals, Value.category]; done) | rfl
  refine Fin.start (Q := Q_n4_3 Z a b kb c0 c1 c2 G1 h0 n0) ef ?_
  refine Fin.by (fun tt_ kk_ => XS.aloadN X0.here hx rfl (hb hby d_jdk_42_method_149_0) rfl rfl kk_) ?_
  obtain ⟨T101, X101, e101, st101⟩ := initO X0 hx hZ hown (w_ hw 17 rfl) (w_ hw 18 rfl) (w_ hw 19 rfl) e0 (g := (mkF m 1 #[.val (.ref a), .val (.ref b), .val (.int 0), .val (.int 3), .val .null, .unset] [(.ref a)])) rfl (by rw [hml]; rfl) rfl (hb hby d_jdk_42_method_149_1) (by decide) (W := 0) (by show 2 * 0 + _ ≤ _; exact Nat.le_of_eq rfl) (by decide)
  refine Fin.by (fun tt_ kk_ => st101 tt_ kk_) ?_
  refine Fin.by (fun tt_ kk_ => XS.iloadN X101.here hx rfl (hb hby d_jdk_42_method_149_4) rfl kk_) ?_
  show Fin _ _ _ _ _ _ _ (T101.setTop (mkF m 5 #[.val (.ref a), .val (.ref b), .val (.int 0), .val (.int 3), .val .null, .unset] [(.int 3)]))
  refine Fin.by (fun tt_ kk_ => XS.ifYes X101.here hx rfl (pc0 := 5) (pc' := 27) rfl (hb hby d_jdk_42_method_149_5) rfl ((if0 _ _).trans (feq (by decide : ¬ (3 : Int32) = (0 : Int32))).2) (by decide) (by decide) kk_) ?_
  obtain ⟨T102, X102, e102, st102⟩ := getS X101 hx hZ (host := "") hown (w_ hw 68 rfl) Via.refl e101 (S1.ext OL.2) (g := (mkF m 27 #[.val (.ref a), .val (.ref b), .val (.int 0), .val (.int 3), .val .null, .unset] [])) rfl (hb hby d_jdk_42_method_149_27)
  refine Fin.by (fun tt_ kk_ => st102 tt_ kk_) ?_
  show Fin _ _ _ _ _ _ _ (T102.setTop (mkF m 30 #[.val (.ref a), .val (.ref b), .val (.int 0), .val (.int 3), .val .null, .unset] [(.int G1)]))
  refine Fin.by (fun tt_ kk_ => XS.ifNo X102.here hx rfl (hb hby d_jdk_42_method_149_30) rfl ((if0 _ _).trans (feq (P1 : ¬ G1 = (0 : Int32))).1) kk_) ?_
  refine Fin.by (fun tt_ kk_ => XS.aloadN X102.here hx rfl (hb hby d_jdk_42_method_149_33) rfl rfl (XS.iloadN X102.here hx rfl (hb hby d_jdk_42_method_149_34) rfl (XS.iloadN X102.here hx rfl (hb hby d_jdk_42_method_149_35) rfl kk_))) ?_
  obtain ⟨v103, _, ⟨T103, L103, k103, n103⟩, -, X103, ⟨Lc103, hQ103, l103, y103, z103⟩, st103⟩ := Jvm.LawKit.callS X102 hx (y := y_13) hown (mvT hZ (w_ hw 69 rfl)) (mvT hZ (w_ hw 70 rfl)) (mvT hZ (w_ hw 71 rfl)) (mvT hZ (w_ hw 72 rfl)) (by decide) (backOf (W := 0) (rm_c3_3 l Z a0 hw [] b kb c0 c1 c2 h0 n0 Z0 Ab hb_0 hb_1 hb_2 S6 S7 S8 OL) hZ (w_ hw 72 rfl) (w_ hw 71 rfl) (by decide) (by decide)) (g := (mkF m 36 #[.val (.ref a), .val (.ref b), .val (.int 0), .val (.int 3), .val .null, .unset] [(.int 3), (.int 0), (.ref b)])) rfl (by rw [hml]; rfl) (argsL := [(.ref b), (.int 0), (.int 3)]) (rest := []) (lenOf pd_198 rfl) rfl (by show 2 * 0 + _ ≤ _; exact Nat.le_of_eq rfl) (hb hby d_jdk_42_method_149_36) (fun _ _ => ⟨rfl, e102, (by decide : 0 + 2 ≤ _), (by decide : 0 + 9 ≤ _)⟩)
  dsimp only [Pt.U, Pt.locs, Pt.cells, Pt.slots] at X103 l103 y103 z103 st103 hQ103
  subst l103 y103 z103
  obtain ⟨t104, k105, cd106, N107, vs108, rfl, Nq103, p103_0, p103_1, p103_2, p103_3⟩ := hQ103
  have N103_ := Fr.app N0 Nq103
  refine Fin.by (fun tt_ kk_ => st103 tt_ kk_) ?_
  rcases id p103_3 with ⟨hcd, hN2, hvs, -⟩ | ⟨hcd, hN2, hvs, -⟩
  · have hN2' : N107 = (3 : Int32) := hN2
    clear hN2
    subst hcd
    subst hN2'
    refine Fin.by (fun tt_ kk_ => XS.astore X103.here hx rfl (hb hby d_jdk_42_method_149_39) rfl rfl (l' := #[.val (.ref a), .val (.ref b), .val (.int 0), .val (.int 3), .val .null, .val (.ref t104)]) rfl (XS.aloadN X103.here hx rfl (hb hby d_jdk_42_method_149_41) rfl rfl (XS.aload X103.here hx rfl (hb hby d_jdk_42_method_149_42) rfl rfl (XS.iloadN X103.here hx rfl (hb hby d_jdk_42_method_149_44) rfl kk_)))) ?_
    have z109 : n0 ≤ T103.heap.size := Nat.le_trans Z0 p103_0.1
    obtain ⟨v110, _, ⟨T110, L110, k110, n110⟩, -, X110, ⟨Lc110, hQ110, l110, y110, z110⟩, st110⟩ := Jvm.LawKit.callS X103 hx (y := y_14) hown (mvT hZ (w_ hw 76 rfl)) (mvT hZ (w_ hw 77 rfl)) (mvT hZ (w_ hw 71 rfl)) (mvT hZ (w_ hw 78 rfl)) (by decide) (backOf (W := 1) (rm_cod_3_0 l Z a0 hw [] t104 k105 (vs108 : List Value) T103.heap n0 z109 p103_2) hZ (w_ hw 78 rfl) (w_ hw 71 rfl) (by decide) (by decide)) (g := (mkF m 45 #[.val (.ref a), .val (.ref b), .val (.int 0), .val (.int 3), .val .null, .val (.ref t104)] [(.int 3), (.ref t104), (.ref a)])) rfl (by rw [hml]; rfl) (argsL := [(.ref t104), (.int 3)]) (rest := [(.ref a)]) (lenOf pd_230 rfl) rfl (by show 2 * 0 + _ ≤ _; exact Nat.le_of_eq rfl) (hb hby d_jdk_42_method_149_45) (fun _ _ => ⟨rfl, rfl, (by decide : 2 + 0 ≤ _), (by decide : 9 + 0 ≤ _)⟩)
    dsimp only [Pt.U, Pt.locs, Pt.cells, Pt.slots] at X110 l110 y110 z110 st110 hQ110
    subst l110 y110 z110
    obtain ⟨rfl, Nq110, e110_⟩ := hQ110
    have N110_ := Fr.app N103_ Nq110
    refine Fin.by (fun tt_ kk_ => st110 tt_ kk_) ?_
    have e110 := e110_
    have F111 : Fld Z T103.heap a "java/lang/String" "coder" "B" (.int (0 : Int32)) := (F1.keep p103_0 nin0)
    have E112 : Exa Z T103.heap a "java/lang/String" := (E0.keep p103_0)
    obtain ⟨T113, h113, X113, e113, W113, st113⟩ := putFN X110 hx hZ hown (w_ hw 27 rfl) Via.refl e110 F111 E112 (Or.inr ⟨(w_ hw 23 rfl), rfl, hnm⟩) (w_ hw 7 rfl) (ty := .byte) (v' := .int (0 : Int32)) (by decide) rfl rfl (g := (mkF m 48 #[.val (.ref a), .val (.ref b), .val (.int 0), .val (.int 3), .val .null, .val (.ref t104)] [(.int (nar .byte 0)), (.ref a)])) rfl rfl (hb hby d_jdk_42_method_149_48)
    refine Fin.by (fun tt_ kk_ => st113 tt_ kk_) ?_
    have N113_ := Fr.snoc X113 N110_ ga
    refine Fin.by (fun tt_ kk_ => XS.aloadN X113.here hx rfl (hb hby d_jdk_42_method_149_51) rfl rfl (XS.aload X113.here hx rfl (hb hby d_jdk_42_method_149_52) rfl rfl kk_)) ?_
    have F114 : Fld Z h113 a "java/lang/String" "value" "[B" .null := ((F0.keep p103_0 nin0).other W113 (Or.inr (slot_ne (Or.inr (w_ hw 22 rfl)) (Or.inr (w_ hw 23 rfl)) (by decide) (t := (.array .byte)) (t' := .byte) (by decide) (by decide))))
    have E115 : Exa Z h113 a "java/lang/String" := (E112.wr W113)
    obtain ⟨T116, h116, X116, e116, W116, st116⟩ := putF X113 hx hZ hown (host := "") (Or.inl (w_ hw 26 rfl)) Via.refl e113 F114 E115 (Or.inr ⟨(w_ hw 22 rfl), rfl, hnm⟩) (w_ hw 7 rfl) (ty := (.array .byte)) (by decide) rfl rfl (g := (mkF m 54 #[.val (.ref a), .val (.ref b), .val (.int 0), .val (.int 3), .val .null, .val (.ref t104)] [(.ref t104), (.ref a)])) rfl rfl (hb hby d_jdk_42_method_149_54)
    refine Fin.by (fun tt_ kk_ => st116 tt_ kk_) ?_
    have N116_ := Fr.snoc X116 N113_ ga
    have kp117 : Keep h0 T103.heap [a] := (Keep.refl h0 [a]).trans p103_0 all0
    have kp118 : Keep h0 h113 [a] := kp117.wr W113 (Or.inl (List.mem_of_getElem? (i := 0) rfl))
    have kp119 : Keep h0 h116 [a] := kp118.wr W116 (Or.inl (List.mem_of_getElem? (i := 0) rfl))
    have E120 : Exa Z h116 a "java/lang/String" := (E115.wr W116)
    have F121 : Fld Z h116 a "java/lang/String" "coder" "B" (.int (0 : Int32)) := ((F111.same W113).other W116 (Or.inr (slot_ne (Or.inr (w_ hw 23 rfl)) (Or.inr (w_ hw 22 rfl)) (by decide) (t := .byte) (t' := (.array .byte)) (by decide) (by decide))))
    have ne122 : a ≠ t104 := Nat.ne_of_lt (Nat.lt_of_lt_of_le E0.lt p103_1)
    have A123 : Arv Z h116 t104 k105 .byte (3 : Int32) vs108 (.int (0 : Int32)) := ((p103_2.other W113 (Ne.symm ne122)).other W116 (Ne.symm ne122))
    show Fin _ _ _ _ _ _ _ (T116.setTop (mkF m 57 #[.val (.ref a), .val (.ref b), .val (.int 0), .val (.int 3), .val .null, .val (.ref t104)] []))
    exact Fin.ret (v := none) X116 (fun _ => rfl) Bd.notSynchronized (by rw [e116]; exact ⟨t104, k105, (0 : Int32), (3 : Int32), vs108, rfl, N116_, kp119, (Nat.le_trans (Nat.le_refl _) p103_1), E120, (F114.same W116), F121, A123, p103_3⟩) (by decide) (by decide) (fun fs hr => X116.returnOut hx Bd.returns (hb hby d_jdk_42_method_149_57) hr)
  · have hN2' : N107 = (6 : Int32) := hN2
    clear hN2
    subst hcd
    subst hN2'
    refine Fin.by (fun tt_ kk_ => XS.astore X103.here hx rfl (hb hby d_jdk_42_method_149_39) rfl rfl (l' := #[.val (.ref a), .val (.ref b), .val (.int 0), .val (.int 3), .val .null, .val (.ref t104)]) rfl (XS.aloadN X103.here hx rfl (hb hby d_jdk_42_method_149_41) rfl rfl (XS.aload X103.here hx rfl (hb hby d_jdk_42_method_149_42) rfl rfl (XS.iloadN X103.here hx rfl (hb hby d_jdk_42_method_149_44) rfl kk_)))) ?_
    have z124 : n0 ≤ T103.heap.size := Nat.le_trans Z0 p103_0.1
    obtain ⟨v125, _, ⟨T125, L125, k125, n125⟩, -, X125, ⟨Lc125, hQ125, l125, y125, z125⟩, st125⟩ := Jvm.LawKit.callS X103 hx (y := y_14) hown (mvT hZ (w_ hw 76 rfl)) (mvT hZ (w_ hw 77 rfl)) (mvT hZ (w_ hw 71 rfl)) (mvT hZ (w_ hw 78 rfl)) (by decide) (backOf (W := 1) (rm_cod_3_1 l Z a0 hw [] t104 k105 (vs108 : List Value) T103.heap n0 z124 p103_2) hZ (w_ hw 78 rfl) (w_ hw 71 rfl) (by decide) (by decide)) (g := (mkF m 45 #[.val (.ref a), .val (.ref b), .val (.int 0), .val (.int 3), .val .null, .val (.ref t104)] [(.int 3), (.ref t104), (.ref a)])) rfl (by rw [hml]; rfl) (argsL := [(.ref t104), (.int 3)]) (rest := [(.ref a)]) (lenOf pd_230 rfl) rfl (by show 2 * 0 + _ ≤ _; exact Nat.le_of_eq rfl) (hb hby d_jdk_42_method_149_45) (fun _ _ => ⟨rfl, rfl, (by decide : 2 + 0 ≤ _), (by decide : 9 + 0 ≤ _)⟩)
    dsimp only [Pt.U, Pt.locs, Pt.cells, Pt.slots] at X125 l125 y125 z125 st125 hQ125
    subst l125 y125 z125
    obtain ⟨rfl, Nq125, e125_⟩ := hQ125
    have N125_ := Fr.app N103_ Nq125
    refine Fin.by (fun tt_ kk_ => st125 tt_ kk_) ?_
    have e125 := e125_
    have F126 : Fld Z T103.heap a "java/lang/String" "coder" "B" (.int (0 : Int32)) := (F1.keep p103_0 nin0)
    have E127 : Exa Z T103.heap a "java/lang/String" := (E0.keep p103_0)
    obtain ⟨T128, h128, X128, e128, W128, st128⟩ := putFN X125 hx hZ hown (w_ hw 27 rfl) Via.refl e125 F126 E127 (Or.inr ⟨(w_ hw 23 rfl), rfl, hnm⟩) (w_ hw 7 rfl) (ty := .byte) (v' := .int (1 : Int32)) (by decide) rfl rfl (g := (mkF m 48 #[.val (.ref a), .val (.ref b), .val (.int 0), .val (.int 3), .val .null, .val (.ref t104)] [(.int (nar .byte 1)), (.ref a)])) rfl rfl (hb hby d_jdk_42_method_149_48)
    refine Fin.by (fun tt_ kk_ => st128 tt_ kk_) ?_
    have N128_ := Fr.snoc X128 N125_ ga
    refine Fin.by (fun tt_ kk_ => XS.aloadN X128.here hx rfl (hb hby d_jdk_42_method_149_51) rfl rfl (XS.aload X128.here hx rfl (hb hby d_jdk_42_method_149_52) rfl rfl kk_)) ?_
    have F129 : Fld Z h128 a "java/lang/String" "value" "[B" .null := ((F0.keep p103_0 nin0).other W128 (Or.inr (slot_ne (Or.inr (w_ hw 22 rfl)) (Or.inr (w_ hw 23 rfl)) (by decide) (t := (.array .byte)) (t' := .byte) (by decide) (by decide))))
    have E130 : Exa Z h128 a "java/lang/String" := (E127.wr W128)
    obtain ⟨T131, h131, X131, e131, W131, st131⟩ := putF X128 hx hZ hown (host := "") (Or.inl (w_ hw 26 rfl)) Via.refl e128 F129 E130 (Or.inr ⟨(w_ hw 22 rfl), rfl, hnm⟩) (w_ hw 7 rfl) (ty := (.array .byte)) (by decide) rfl rfl (g := (mkF m 54 #[.val (.ref a), .val (.ref b), .val (.int 0), .val (.int 3), .val .null, .val (.ref t104)] [(.ref t104), (.ref a)])) rfl rfl (hb hby d_jdk_42_method_149_54)
    refine Fin.by (fun tt_ kk_ => st131 tt_ kk_) ?_
    have N131_ := Fr.snoc X131 N128_ ga
    have kp132 : Keep h0 T103.heap [a] := (Keep.refl h0 [a]).trans p103_0 all0
    have kp133 : Keep h0 h128 [a] := kp132.wr W128 (Or.inl (List.mem_of_getElem? (i := 0) rfl))
    have kp134 : Keep h0 h131 [a] := kp133.wr W131 (Or.inl (List.mem_of_getElem? (i := 0) rfl))
    have E135 : Exa Z h131 a "java/lang/String" := (E130.wr W131)
    have F136 : Fld Z h131 a "java/lang/String" "coder" "B" (.int (1 : Int32)) := ((F126.same W128).other W131 (Or.inr (slot_ne (Or.inr (w_ hw 23 rfl)) (Or.inr (w_ hw 22 rfl)) (by decide) (t := .byte) (t' := (.array .byte)) (by decide) (by decide))))
    have ne137 : a ≠ t104 := Nat.ne_of_lt (Nat.lt_of_lt_of_le E0.lt p103_1)
    have A138 : Arv Z h131 t104 k105 .byte (6 : Int32) vs108 (.int (0 : Int32)) := ((p103_2.other W128 (Ne.symm ne137)).other W131 (Ne.symm ne137))
    show Fin _ _ _ _ _ _ _ (T131.setTop (mkF m 57 #[.val (.ref a), .val (.ref b), .val (.int 0), .val (.int 3), .val .null, .val (.ref t104)] []))
    exact Fin.ret (v := none) X131 (fun _ => rfl) Bd.notSynchronized (by rw [e131]; exact ⟨t104, k105, (1 : Int32), (6 : Int32), vs108, rfl, N131_, kp134, (Nat.le_trans (Nat.le_refl _) p103_1), E135, (F129.same W131), F136, A138, p103_3⟩) (by decide) (by decide) (fun fs hr => X131.returnOut hx Bd.returns (hb hby d_jdk_42_method_149_57) hr)
def Q_n1_3 (Z : State) (a : Addr) (b : Addr) (kb : ClassId) (c0 : Int32) (c1 : Int32) (c2 : Int32) (G1 : Int32) (h0 : Heap) (n0 : Nat) (vv_ : Option Value) (hh_ : Heap) (LL_ : List Loc) : Prop := ∃ (t : Addr), ∃ (k : ClassId), ∃ (cd : Int32), ∃ (N2 : Int32), ∃ (vs : List Value), vv_ = none ∧ Fr n0 LL_ ∧ Keep h0 hh_ [a] ∧ h0.size ≤ t ∧ Exa Z hh_ a "java/lang/String" ∧ Fld Z hh_ a "java/lang/String" "value" "[B" (.ref t) ∧ Fld Z hh_ a "java/lang/String" "coder" "B" (.int cd) ∧ Arv Z hh_ t k .byte N2 vs (.int (0 : Int32)) ∧ (StrChars.Road.CodA ([c0, c1, c2] : List Int32) cd N2 vs)
set_option maxRecDepth 65536 in
set_option maxHeartbeats 40000000 in
theorem rm_n1_3 (l : Launch) (Z : State) (a0 : Array Value) (hw : ∀ d ∈ tables_1, d.before a0 Z = true) (ws : List Jvm.Cond) (a : Addr) (b : Addr) (kb : ClassId) (c0 : Int32) (c1 : Int32) (c2 : Int32) (G1 : Int32) (h0 : Heap) (n0 : Nat) (Z0 : n0 ≤ h0.size) (E0 : Exa Z h0 a "java/lang/String") (F0 : Fld Z h0 a "java/lang/String" "value" "[B" .null) (F1 : Fld Z h0 a "java/lang/String" "coder" "B" (.int (0 : Int32))) (ga : n0 ≤ a) (Ab : Arv Z h0 b kb .char (3 : Int32) [(.int c0), (.int c1), (.int c2)] (.int (0 : Int32))) (hb_0 : ¬ c0 < 0 ∧ ¬ (65535 : Int32) < c0) (hb_1 : ¬ c1 < 0 ∧ ¬ (65535 : Int32) < c1) (hb_2 : ¬ c2 < 0 ∧ ¬ (65535 : Int32) < c2) (S1 : Sta Z Z.heap "java/lang/String" "COMPACT_STRINGS" "Z" (.int G1)) (P1 : ¬ G1 = 0) (S6 : Sta Z Z.heap "java/lang/StringUTF16" "$assertionsDisabled" "Z" (.int (1 : Int32))) (S7 : Sta Z Z.heap "java/lang/StringUTF16" "HI_BYTE_SHIFT" "I" (.int (0 : Int32))) (S8 : Sta Z Z.heap "java/lang/StringUTF16" "LO_BYTE_SHIFT" "I" (.int (8 : Int32))) (OL : Old Z n0 h0) :
    MetFree l (⟨"java/lang/String", "<init>", "([C)V"⟩ : MethodName) (head1 (Jvm.Cond.code (⟨"java/lang/String", "<init>", "([C)V"⟩ : MethodName) jdk_42_method_3_code 2 none :: ws) ({ frames := 5, cells := 2, slots := 9, locals := 74 } : Room)) (fun aa_ U => aa_ = #[(.ref a), (.ref b)] ∧ Z.Warmed39 U.vm ∧ U.heap = h0) (fun _ _ _ _ _ => True) (fun _ U o U' => ∃ vv_ LL_, o = .returned vv_ ∧ Q_n1_3 Z a b kb c0 c1 c2 G1 h0 n0 vv_ U'.heap LL_ ∧ FrameEnd U o U' LL_ 2 9) := by
  refine MetFree.of_bodySF (plainFor_of_name pn_java_lang_String) hisR ?_
  intro p e s m args below meth c s₁ Bd hml0 hP hK
  obtain ⟨rfl, hZ, hh⟩ := hP
  have hx := Bd.exec
  have hby := Bd.bytes
  have hml : c.maxLocals = 2 := hml0
  have hown : s.vm.findClass "java/lang/String" = some m.cls := findClass_of_methodNamed Bd.named
  have hnm := (name_of_methodNamed Bd.named Bd.method).1
  have X0 : Stand p l e ({ frames := 5, cells := 2, slots := 9, locals := 74 } : Room) s m #[(.ref a), (.ref b)] below meth c s₁ [] 0 0 := Stand.of_body Bd
  have e0 : s₁.heap = h0 := by rw [← hh, Bd.state]; rfl
  have N0 := Fr.nil n0
  have ef : entryFrame m #[(.ref a), (.ref b)] 2 = mkF m 0 #[.val (.ref a), .val (.ref b)] [] := by first | (simp [entryFrame, mkF, argsToLocals, Value.category]; done) | rfl
  refine Fin.start (Q := Q_n1_3 Z a b kb c0 c1 c2 G1 h0 n0) ef ?_
  refine Fin.by (fun tt_ kk_ => XS.aloadN X0.here hx rfl (hb hby d_jdk_42_method_3_0) rfl rfl (XS.aloadN X0.here hx rfl (hb hby d_jdk_42_method_3_1) rfl rfl (XS.iconst X0.here hx rfl (hb hby d_jdk_42_method_3_2) (XS.aloadN X0.here hx rfl (hb hby d_jdk_42_method_3_3) rfl rfl kk_)))) ?_
  obtain ⟨cl101, Ar101, q101, S101, N101, H101, G101⟩ := id Ab
  refine Fin.by (fun tt_ kk_ => X0.arraylength hx (by rw [e0]; exact Ar101.1) (State.isArrayOf_alike hZ.alike Ar101.2.1) (g := (mkF m 4 #[.val (.ref a), .val (.ref b)] [(.ref b), (.int 0), (.ref b), (.ref a)])) rfl rfl (hb hby d_jdk_42_method_3_4) _ kk_) ?_
  rw [len_of S101 N101]
  refine Fin.by (fun tt_ kk_ => XS.aconstNull X0.here hx rfl (hb hby d_jdk_42_method_3_5) kk_) ?_
  obtain ⟨v102, _, ⟨T102, L102, k102, n102⟩, -, X102, ⟨Lc102, hQ102, l102, y102, z102⟩, st102⟩ := X0.specialBack hx (y := y_15) rfl hown (mvT hZ (w_ hw 13 rfl)) (mvT hZ (w_ hw 14 rfl)) (mvT hZ (w_ hw 16 rfl)) (by decide) (backOf (W := 0) (rm_n4_3 l Z a0 hw [] a b kb c0 c1 c2 G1 h0 n0 Z0 E0 F0 F1 ga Ab hb_0 hb_1 hb_2 S1 P1 S6 S7 S8 OL) hZ (w_ hw 16 rfl) (w_ hw 8 rfl) (by decide) (by decide)) (g := (mkF m 6 #[.val (.ref a), .val (.ref b)] [.null, (.int 3), (.int 0), (.ref b), (.ref a)])) rfl (by rw [hml]; rfl) (Steps.refl _) (a := a) (argsL := [(.ref b), (.int 0), (.int 3), .null]) (rest := []) (lenOf pd_243 rfl) rfl (by show 2 * 0 + _ ≤ _; exact Nat.le_of_eq rfl) (hb hby d_jdk_42_method_3_6) (fun _ _ => ⟨rfl, e0, (by decide : 0 + 2 ≤ _), (by decide : 0 + 9 ≤ _)⟩)
  dsimp only [Pt.U, Pt.locs, Pt.cells, Pt.slots] at X102 l102 y102 z102 st102 hQ102
  subst l102 y102 z102
  obtain ⟨t103, k104, cd105, N106, vs107, rfl, Nq102, p102_0, p102_1, p102_2, p102_3, p102_4, p102_5, p102_6⟩ := hQ102
  have N102_ := Fr.app N0 Nq102
  refine Fin.byS st102 ?_
  have kp108 : Keep h0 T102.heap [a] := (Keep.refl h0 [a]).trans p102_0 (allS (Or.inl (List.mem_of_getElem? (i := 0) rfl)) all0)
  show Fin _ _ _ _ _ _ _ (T102.setTop (mkF m 9 #[.val (.ref a), .val (.ref b)] []))
  exact Fin.ret (v := none) X102 (fun _ => rfl) Bd.notSynchronized (⟨t103, k104, cd105, N106, vs107, rfl, N102_, kp108, (Nat.le_trans (Nat.le_refl _) p102_1), p102_2, p102_3, p102_4, p102_5, p102_6⟩) (by decide) (by decide) (fun fs hr => X102.returnOut hx Bd.returns (hb hby d_jdk_42_method_3_9) hr)
theorem d_jdk_42_method_152_0 : decode jdk_42_method_152_code 0 = .ok (.getstatic 38, 3) := by decide +kernel
theorem d_jdk_42_method_152_3 : decode jdk_42_method_152_code 3 = .ok (.ifCond .eq 10, 3) := by decide +kernel
theorem d_jdk_42_method_152_6 : decode jdk_42_method_152_code 6 = .ok (.aload_n 0, 1) := by decide +kernel
theorem d_jdk_42_method_152_7 : decode jdk_42_method_152_code 7 = .ok (.getfield 15, 3) := by decide +kernel
theorem d_jdk_42_method_152_10 : decode jdk_42_method_152_code 10 = .ok (.goto 4, 3) := by decide +kernel
theorem d_jdk_42_method_152_14 : decode jdk_42_method_152_code 14 = .ok (.ireturn, 1) := by decide +kernel
def Q_cdr (Z : State) (x : Addr) (cd : Int32) (G1 : Int32) (h0 : Heap) (n0 : Nat) (vv_ : Option Value) (hh_ : Heap) (LL_ : List Loc) : Prop := vv_ = some (.int (nar .byte cd)) ∧ Fr n0 LL_ ∧ hh_ = h0
set_option maxRecDepth 65536 in
set_option maxHeartbeats 40000000 in
theorem rm_cdr (l : Launch) (Z : State) (a0 : Array Value) (hw : ∀ d ∈ tables_1, d.before a0 Z = true) (ws : List Jvm.Cond) (x : Addr) (cd : Int32) (G1 : Int32) (h0 : Heap) (n0 : Nat) (Z0 : n0 ≤ h0.size) (F1 : Fld Z h0 x "java/lang/String" "coder" "B" (.int cd)) (S1 : Sta Z Z.heap "java/lang/String" "COMPACT_STRINGS" "Z" (.int G1)) (P1 : ¬ G1 = 0) (OL : Old Z n0 h0) :
    MetFree l (⟨"java/lang/String", "coder", "()B"⟩ : MethodName) (head1 (Jvm.Cond.code (⟨"java/lang/String", "coder", "()B"⟩ : MethodName) jdk_42_method_152_code 1 (some .byte) :: ws) ({ frames := 0, cells := 0, slots := 0, locals := 0 } : Room)) (fun aa_ U => aa_ = #[(.ref x)] ∧ Z.Warmed39 U.vm ∧ U.heap = h0) (fun _ _ _ _ _ => True) (fun _ U o U' => ∃ vv_ LL_, o = .returned vv_ ∧ Q_cdr Z x cd G1 h0 n0 vv_ U'.heap LL_ ∧ FrameEnd U o U' LL_ 0 0) := by
  refine MetFree.of_bodySF (plainFor_of_name pn_java_lang_String) hisR ?_
  intro p e s m args below meth c s₁ Bd hml0 hP hK
  obtain ⟨rfl, hZ, hh⟩ := hP
  have hx := Bd.exec
  have hby := Bd.bytes
  have hml : c.maxLocals = 1 := hml0
  have hown : s.vm.findClass "java/lang/String" = some m.cls := findClass_of_methodNamed Bd.named
  have hnm := (name_of_methodNamed Bd.named Bd.method).1
  have X0 : Stand p l e ({ frames := 0, cells := 0, slots := 0, locals := 0 } : Room) s m #[(.ref x)] below meth c s₁ [] 0 0 := Stand.of_body Bd
  have e0 : s₁.heap = h0 := by rw [← hh, Bd.state]; rfl
  have N0 := Fr.nil n0
  have ef : entryFrame m #[(.ref x)] 1 = mkF m 0 #[.val (.ref x)] [] := by first | (simp [entryFrame, mkF, argsToLocals, Value.category]; done) | rfl
  refine Fin.start (Q := Q_cdr Z x cd G1 h0 n0) ef ?_
  obtain ⟨T101, X101, e101, st101⟩ := getS X0 hx hZ (host := "") hown (w_ hw 68 rfl) Via.refl e0 (S1.ext OL.2) (g := (mkF m 0 #[.val (.ref x)] [])) rfl (hb hby d_jdk_42_method_152_0)
  refine Fin.by (fun tt_ kk_ => st101 tt_ kk_) ?_
  show Fin _ _ _ _ _ _ _ (T101.setTop (mkF m 3 #[.val (.ref x)] [(.int G1)]))
  refine Fin.by (fun tt_ kk_ => XS.ifNo X101.here hx rfl (hb hby d_jdk_42_method_152_3) rfl ((if0 _ _).trans (feq (P1 : ¬ G1 = (0 : Int32))).1) kk_) ?_
  refine Fin.by (fun tt_ kk_ => XS.aloadN X101.here hx rfl (hb hby d_jdk_42_method_152_6) rfl rfl kk_) ?_
  obtain ⟨T102, X102, e102, st102⟩ := getF X101 hx hZ hown (host := "") (Or.inl (w_ hw 27 rfl)) Via.refl e101 F1 (g := (mkF m 7 #[.val (.ref x)] [(.ref x)])) rfl rfl (hb hby d_jdk_42_method_152_7)
  refine Fin.by (fun tt_ kk_ => st102 tt_ kk_) ?_
  refine Fin.by (fun tt_ kk_ => XS.goto X102.here hx rfl (pc0 := 10) (pc' := 14) rfl (hb hby d_jdk_42_method_152_10) (by decide) (by decide) kk_) ?_
  show Fin _ _ _ _ _ _ _ (T102.setTop (mkF m 14 #[.val (.ref x)] [(.int cd)]))
  exact Fin.ret (v := some (.int (nar .byte cd))) X102 (fun h => by rw [Bd.returns] at h; cases h) Bd.notSynchronized (by rw [e102]; exact ⟨rfl, N0, rfl⟩) (by decide) (by decide) (fun fs hr => retN X102 hx (t := .byte) Bd.returns (by simp) (hb hby d_jdk_42_method_152_14) hr)
abbrev y_16 : MethodName := (⟨"java/lang/String", "coder", "()B"⟩ : MethodName)
theorem d_jdk_42_method_54_0 : decode jdk_42_method_54_code 0 = .ok (.aload_n 0, 1) := by decide +kernel
theorem d_jdk_42_method_54_1 : decode jdk_42_method_54_code 1 = .ok (.getfield 9, 3) := by decide +kernel
theorem d_jdk_42_method_54_4 : decode jdk_42_method_54_code 4 = .ok (.arraylength, 1) := by decide +kernel
theorem d_jdk_42_method_54_5 : decode jdk_42_method_54_code 5 = .ok (.aload_n 0, 1) := by decide +kernel
theorem pd_256 : parseMethodDescriptor "()B" = some ⟨[], some .byte⟩ := by decide +kernel
theorem d_jdk_42_method_54_6 : decode jdk_42_method_54_code 6 = .ok (.invokevirtual 335, 3) := by decide +kernel
theorem d_jdk_42_method_54_9 : decode jdk_42_method_54_code 9 = .ok (.ishr, 1) := by decide +kernel
theorem d_jdk_42_method_54_10 : decode jdk_42_method_54_code 10 = .ok (.ireturn, 1) := by decide +kernel
def Q_sle (Z : State) (x : Addr) (t : Addr) (kb : ClassId) (N2 : Int32) (vs : List Value) (cs : List Int32) (cd : Int32) (G1 : Int32) (h0 : Heap) (n0 : Nat) (vv_ : Option Value) (hh_ : Heap) (LL_ : List Loc) : Prop := vv_ = some (.int (Int32.ofNat cs.length)) ∧ Fr n0 LL_ ∧ hh_ = h0
set_option maxRecDepth 65536 in
set_option maxHeartbeats 40000000 in
theorem rm_sle (l : Launch) (Z : State) (a0 : Array Value) (hw : ∀ d ∈ tables_1, d.before a0 Z = true) (ws : List Jvm.Cond) (x : Addr) (t : Addr) (kb : ClassId) (N2 : Int32) (vs : List Value) (cs : List Int32) (cd : Int32) (G1 : Int32) (h0 : Heap) (n0 : Nat) (Z0 : n0 ≤ h0.size) (hc : StrChars.Road.CodA cs cd N2 vs) (l2 : cs.length ≤ 4000) (E0 : Exa Z h0 x "java/lang/String") (F0 : Fld Z h0 x "java/lang/String" "value" "[B" (.ref t)) (F1 : Fld Z h0 x "java/lang/String" "coder" "B" (.int cd)) (A0 : Arv Z h0 t kb .byte N2 vs (.int 0)) (S1 : Sta Z Z.heap "java/lang/String" "COMPACT_STRINGS" "Z" (.int G1)) (P1 : ¬ G1 = 0) (OL : Old Z n0 h0) :
    MetFree l (⟨"java/lang/String", "length", "()I"⟩ : MethodName) (head1 (Jvm.Cond.code (⟨"java/lang/String", "length", "()I"⟩ : MethodName) jdk_42_method_54_code 1 (some .int) :: ws) ({ frames := 1, cells := 0, slots := 0, locals := 13 } : Room)) (fun aa_ U => aa_ = #[(.ref x)] ∧ Z.Warmed39 U.vm ∧ U.heap = h0) (fun _ _ _ _ _ => True) (fun _ U o U' => ∃ vv_ LL_, o = .returned vv_ ∧ Q_sle Z x t kb N2 vs cs cd G1 h0 n0 vv_ U'.heap LL_ ∧ FrameEnd U o U' LL_ 0 0) := by
  refine MetFree.of_bodySF (plainFor_of_name pn_java_lang_String) hisR ?_
  intro p e s m args below meth c s₁ Bd hml0 hP hK
  obtain ⟨rfl, hZ, hh⟩ := hP
  have hx := Bd.exec
  have hby := Bd.bytes
  have hml : c.maxLocals = 1 := hml0
  have hown : s.vm.findClass "java/lang/String" = some m.cls := findClass_of_methodNamed Bd.named
  have hnm := (name_of_methodNamed Bd.named Bd.method).1
  have X0 : Stand p l e ({ frames := 1, cells := 0, slots := 0, locals := 13 } : Room) s m #[(.ref x)] below meth c s₁ [] 0 0 := Stand.of_body Bd
  have e0 : s₁.heap = h0 := by rw [← hh, Bd.state]; rfl
  have N0 := Fr.nil n0
  have ef : entryFrame m #[(.ref x)] 1 = mkF m 0 #[.val (.ref x)] [] := by first | (simp [entryFrame, mkF, argsToLocals, Value.category]; done) | rfl
  refine Fin.start (Q := Q_sle Z x t kb N2 vs cs cd G1 h0 n0) ef ?_
  refine Fin.by (fun tt_ kk_ => XS.aloadN X0.here hx rfl (hb hby d_jdk_42_method_54_0) rfl rfl kk_) ?_
  obtain ⟨T101, X101, e101, st101⟩ := getF X0 hx hZ hown (host := "") (Or.inl (w_ hw 26 rfl)) Via.refl e0 F0 (g := (mkF m 1 #[.val (.ref x)] [(.ref x)])) rfl rfl (hb hby d_jdk_42_method_54_1)
  refine Fin.by (fun tt_ kk_ => st101 tt_ kk_) ?_
  obtain ⟨cl102, Ar102, q102, S102, N102, H102, G102⟩ := id A0
  refine Fin.by (fun tt_ kk_ => X101.arraylength hx (by rw [e101]; exact Ar102.1) (State.isArrayOf_alike hZ.alike Ar102.2.1) (g := (mkF m 4 #[.val (.ref x)] [(.ref t)])) rfl rfl (hb hby d_jdk_42_method_54_4) _ kk_) ?_
  rw [len_of S102 N102]
  refine Fin.by (fun tt_ kk_ => XS.aloadN X101.here hx rfl (hb hby d_jdk_42_method_54_5) rfl rfl kk_) ?_
  obtain ⟨cq103, kq103, qa103, qb103, qc103⟩ := isOf hZ e101 E0
  obtain ⟨v103, _, ⟨T103, L103, k103, n103⟩, -, X103, ⟨Lc103, hQ103, l103, y103, z103⟩, st103⟩ := X101.virtualBack hx (y := y_16) (z := y_16) hown (mvT hZ (w_ hw 63 rfl)) (mvT hZ (w_ hw 64 rfl)) (notFace_of_selects (args := #[]) (mvT hZ (w_ hw 66 rfl))) (mvT hZ (w_ hw 66 rfl)) (mvT hZ (w_ hw 65 rfl)) (by decide) (backOf (W := 1) (rm_cdr l Z a0 hw [] x cd G1 h0 n0 Z0 F1 S1 P1 OL) hZ (w_ hw 67 rfl) (w_ hw 8 rfl) (by decide) (by decide)) qa103 qc103 (g := (mkF m 6 #[.val (.ref x)] [(.ref x), (.int N2)])) rfl (by rw [hml]; rfl) (Steps.refl _) (argsL := []) (rest := [(.int N2)]) (lenOf pd_256 rfl) rfl (by show 2 * 0 + _ ≤ _; exact Nat.le_of_eq rfl) (hb hby d_jdk_42_method_54_6) (fun _ _ => ⟨rfl, e101, (by decide : 0 + 0 ≤ _), (by decide : 0 + 0 ≤ _)⟩)
  dsimp only [Pt.U, Pt.locs, Pt.cells, Pt.slots] at X103 l103 y103 z103 st103 hQ103
  subst l103 y103 z103
  obtain ⟨rfl, Nq103, e103_⟩ := hQ103
  have N103_ := Fr.app N0 Nq103
  refine Fin.byS st103 ?_
  have e103 := e103_
  refine Fin.by (fun tt_ kk_ => XS.ishr X103.here hx rfl (hb hby d_jdk_42_method_54_9) rfl kk_) ?_
  show Fin _ _ _ _ _ _ _ (T103.setTop (mkF m 10 #[.val (.ref x)] [(.int (N2 >>> ((nar .byte cd) &&& 31)))]))
  exact Fin.ret (v := some (.int (N2 >>> ((nar .byte cd) &&& 31)))) X103 (fun h => by rw [Bd.returns] at h; cases h) Bd.notSynchronized (by rw [e103]; exact ⟨(congrArg (fun q => some (Value.int q)) (own_slen hc l2)), N103_, rfl⟩) (by decide) (by decide) (fun fs hr => retI X103 hx Bd.returns (hb hby d_jdk_42_method_54_10) hr)
theorem d_jdk_42_method_149_8 : decode jdk_42_method_149_code 8 = .ok (.aload_n 0, 1) := by decide +kernel
theorem d_jdk_42_method_149_9 : decode jdk_42_method_149_code 9 = .ok (.ldc 7, 2) := by decide +kernel
theorem d_jdk_42_method_149_11 : decode jdk_42_method_149_code 11 = .ok (.getfield 9, 3) := by decide +kernel
theorem d_jdk_42_method_149_14 : decode jdk_42_method_149_code 14 = .ok (.putfield 9, 3) := by decide +kernel
theorem d_jdk_42_method_149_17 : decode jdk_42_method_149_code 17 = .ok (.aload_n 0, 1) := by decide +kernel
theorem d_jdk_42_method_149_18 : decode jdk_42_method_149_code 18 = .ok (.ldc 7, 2) := by decide +kernel
theorem d_jdk_42_method_149_20 : decode jdk_42_method_149_code 20 = .ok (.getfield 15, 3) := by decide +kernel
theorem d_jdk_42_method_149_23 : decode jdk_42_method_149_code 23 = .ok (.putfield 15, 3) := by decide +kernel
theorem d_jdk_42_method_149_26 : decode jdk_42_method_149_code 26 = .ok (.return_, 1) := by decide +kernel
def Q_n4e (Z : State) (a : Addr) (b : Addr) (h0 : Heap) (n0 : Nat) (vv_ : Option Value) (hh_ : Heap) (LL_ : List Loc) : Prop := ∃ (t : Addr), ∃ (k : ClassId), vv_ = none ∧ Fr n0 LL_ ∧ Keep h0 hh_ [a] ∧ Exa Z hh_ a "java/lang/String" ∧ Fld Z hh_ a "java/lang/String" "value" "[B" (.ref t) ∧ Fld Z hh_ a "java/lang/String" "coder" "B" (.int (0 : Int32)) ∧ Arv Z hh_ t k .byte (0 : Int32) [] (.int 0)
set_option maxRecDepth 65536 in
set_option maxHeartbeats 40000000 in
theorem rm_n4e (l : Launch) (Z : State) (a0 : Array Value) (hw : ∀ d ∈ tables_1, d.before a0 Z = true) (ws : List Jvm.Cond) (a : Addr) (b : Addr) (h0 : Heap) (n0 : Nat) (Z0 : n0 ≤ h0.size) (E0 : Exa Z h0 a "java/lang/String") (F0 : Fld Z h0 a "java/lang/String" "value" "[B" .null) (F1 : Fld Z h0 a "java/lang/String" "coder" "B" (.int (0 : Int32))) (ga : n0 ≤ a) :
    MetFree l (⟨"java/lang/String", "<init>", "([CIILjava/lang/Void;)V"⟩ : MethodName) (head1 (Jvm.Cond.code (⟨"java/lang/String", "<init>", "([CIILjava/lang/Void;)V"⟩ : MethodName) jdk_42_method_149_code 6 none :: ws) ({ frames := 1, cells := 4, slots := 8, locals := 12 } : Room)) (fun aa_ U => aa_ = #[(.ref a), (.ref b), (.int (0 : Int32)), (.int (0 : Int32)), .null] ∧ Z.Warmed39 U.vm ∧ U.heap = h0 ∧ CHv Z consts_1 U.vm h0) (fun _ _ _ _ _ => True) (fun _ U o U' => ∃ vv_ LL_, o = .returned vv_ ∧ Q_n4e Z a b h0 n0 vv_ U'.heap LL_ ∧ CHr Z consts_1 U.vm U.heap U'.vm U'.heap ∧ ReturnedEndW U o U' LL_ 4 8) := by
  refine MetFree.of_bodySF (plainFor_of_name pn_java_lang_String) hisR ?_
  intro p e s m args below meth c s₁ Bd hml0 hP hK
  obtain ⟨rfl, hZ, hh, hC0⟩ := hP
  have hx := Bd.exec
  have hby := Bd.bytes
  have hml : c.maxLocals = 6 := hml0
  have hown : s.vm.findClass "java/lang/String" = some m.cls := findClass_of_methodNamed Bd.named
  have hnm := (name_of_methodNamed Bd.named Bd.method).1
  have X0 : Stand p l e ({ frames := 1, cells := 4, slots := 8, locals := 12 } : Room) (s.setVm s.vm) m #[(.ref a), (.ref b), (.int (0 : Int32)), (.int (0 : Int32)), .null] below meth c s₁ [] 0 0 := Stand.of_body Bd
  have e0 : s₁.heap = h0 := by rw [← hh, Bd.state]; rfl
  have N0 := Fr.nil n0
  have ef : entryFrame m #[(.ref a), (.ref b), (.int (0 : Int32)), (.int (0 : Int32)), .null] 6 = mkF m 0 #[.val (.ref a), .val (.ref b), .val (.int (0 : Int32)), .val (.int (0 : Int32)), .val .null, .unset] [] := by first | (simp [entryFrame, mkF, argsToLocals, Value.category]; done) | rfl
  have hS0 : s.Since s.vm h0.size := (State.WarmedH.refl s).since _
  have hk0 : h0.size ≤ h0.size := Nat.le_refl _
  have own_EW := own_EW0 hw
  have ch0 : CHr Z consts_1 s.vm h0 s.vm h0 := CHr.refl hC0
  refine FinH.start (Q := Q_n4e Z a b h0 n0) ef ?_
  refine FinH.by (fun tt_ kk_ => XS.aloadN X0.here hx rfl (hb hby d_jdk_42_method_149_0) rfl rfl kk_) ?_
  obtain ⟨T101, X101, e101, st101⟩ := initO X0 hx hZ hown (w_ hw 17 rfl) (w_ hw 18 rfl) (w_ hw 19 rfl) e0 (g := (mkF m 1 #[.val (.ref a), .val (.ref b), .val (.int 0), .val (.int 0), .val .null, .unset] [(.ref a)])) rfl (by rw [hml]; rfl) rfl (hb hby d_jdk_42_method_149_1) (by decide) (W := 0) (by show 2 * 0 + _ ≤ _; exact Nat.le_of_eq rfl) (by decide)
  refine FinH.by (fun tt_ kk_ => st101 tt_ kk_) ?_
  refine FinH.by (fun tt_ kk_ => XS.iloadN X101.here hx rfl (hb hby d_jdk_42_method_149_4) rfl kk_) ?_
  show FinH _ _ _ _ _ _ _ _ _ (T101.setTop (mkF m 5 #[.val (.ref a), .val (.ref b), .val (.int 0), .val (.int 0), .val .null, .unset] [(.int 0)]))
  refine FinH.by (fun tt_ kk_ => XS.ifNo X101.here hx rfl (hb hby d_jdk_42_method_149_5) rfl ((if0 _ _).trans (teq (rfl : (0 : Int32) = (0 : Int32))).2) kk_) ?_
  refine FinH.by (fun tt_ kk_ => XS.aloadN X101.here hx rfl (hb hby d_jdk_42_method_149_8) rfl rfl kk_) ?_
  obtain ⟨a102, T102, h102, k102, b102, kk102, X102, e102, E102, hS102, hk102, hZ102, hown102, xE102, xC102, xV102, xA102, la102, lb102, hC102, hL102, hne102, st102⟩ := ldcCH X101 hx hZ hown (w_ hw 20 rfl) (fun d hd => hw d (own_strAtoms d hd)) e101 hS0 hk0 own_EW (by decide) ch0.1 (vs := []) (z := (0 : Int32)) ⟨by decide, by rfl⟩ (by decide) rfl (g := (mkF m 9 #[.val (.ref a), .val (.ref b), .val (.int 0), .val (.int 0), .val .null, .unset] [(.ref a)])) rfl (hb hby d_jdk_42_method_149_9) (n := 0) (by decide) (by decide) (by decide) (by decide)
  refine FinH.by (fun tt_ kk_ => st102 tt_ kk_) ?_
  have ch103 : CHr Z consts_1 s.vm h0 T102.vm h102 := ch0.trans hC102
  obtain ⟨T104, X104, e104, st104⟩ := getF X102 hx hZ102 hown102 (host := "") (Or.inl (w_ hw 26 rfl)) Via.refl e102 xV102 (g := (mkF m 11 #[.val (.ref a), .val (.ref b), .val (.int 0), .val (.int 0), .val .null, .unset] [(.ref a102), (.ref a)])) rfl rfl (hb hby d_jdk_42_method_149_11)
  refine FinH.by (fun tt_ kk_ => st104 tt_ kk_) ?_
  have F105 : Fld Z h102 a "java/lang/String" "value" "[B" .null := (F0.ext E102)
  have E106 : Exa Z h102 a "java/lang/String" := (E0.ext E102)
  obtain ⟨T107, h107, X107, e107, W107, st107⟩ := putF X104 hx hZ102 hown102 (host := "") (Or.inl (w_ hw 26 rfl)) Via.refl e104 F105 E106 (Or.inr ⟨(w_ hw 22 rfl), rfl, hnm⟩) (w_ hw 7 rfl) (ty := (.array .byte)) (by decide) rfl rfl (g := (mkF m 14 #[.val (.ref a), .val (.ref b), .val (.int 0), .val (.int 0), .val .null, .unset] [(.ref b102), (.ref a)])) rfl rfl (hb hby d_jdk_42_method_149_14)
  refine FinH.by (fun tt_ kk_ => st107 tt_ kk_) ?_
  have N107_ := Fr.snoc X107 N0 ga
  have sf109 : Safe Z consts_1 T102.vm h102 a := (CHr.safe hC102 E0.lt (own_safe_blank hZ.alike E0 F0))
  have ch108 : CHr Z consts_1 s.vm h0 T102.vm h107 := ch103.trans (CHr.wr W107 sf109 ch103.1)
  refine FinH.by (fun tt_ kk_ => XS.aloadN X107.here hx rfl (hb hby d_jdk_42_method_149_17) rfl rfl kk_) ?_
  obtain ⟨a110, T110, h110, k110, b110, kk110, X110, e110, E110, hS110, hk110, hZ110, hown110, xE110, xC110, xV110, xA110, la110, lb110, hC110, hL110, hne110, st110⟩ := ldcCH X107 hx hZ102 hown102 (w_ hw 20 rfl) (fun d hd => hw d (own_strAtoms d hd)) e107 hS102 (Nat.le_trans hk102 (Keep.of_wr W107).1) own_EW (by decide) ch108.1 (vs := []) (z := (0 : Int32)) ⟨by decide, by rfl⟩ (by decide) rfl (g := (mkF m 18 #[.val (.ref a), .val (.ref b), .val (.int 0), .val (.int 0), .val .null, .unset] [(.ref a)])) rfl (hb hby d_jdk_42_method_149_18) (n := 0) (by decide) (by decide) (by decide) (by decide)
  refine FinH.by (fun tt_ kk_ => st110 tt_ kk_) ?_
  have ch111 : CHr Z consts_1 s.vm h0 T110.vm h110 := ch108.trans hC110
  obtain ⟨T112, X112, e112, st112⟩ := getF X110 hx hZ110 hown110 (host := "") (Or.inl (w_ hw 27 rfl)) Via.refl e110 xC110 (g := (mkF m 20 #[.val (.ref a), .val (.ref b), .val (.int 0), .val (.int 0), .val .null, .unset] [(.ref a110), (.ref a)])) rfl rfl (hb hby d_jdk_42_method_149_20)
  refine FinH.by (fun tt_ kk_ => st112 tt_ kk_) ?_
  have F113 : Fld Z h110 a "java/lang/String" "coder" "B" (.int (0 : Int32)) := (((F1.ext E102).other W107 (Or.inr (slot_ne (Or.inr (w_ hw 23 rfl)) (Or.inr (w_ hw 22 rfl)) (by decide) (t := .byte) (t' := (.array .byte)) (by decide) (by decide)))).ext E110)
  have E114 : Exa Z h110 a "java/lang/String" := ((E106.wr W107).ext E110)
  obtain ⟨T115, h115, X115, e115, W115, st115⟩ := putFN X112 hx hZ110 hown110 (w_ hw 27 rfl) Via.refl e112 F113 E114 (Or.inr ⟨(w_ hw 23 rfl), rfl, hnm⟩) (w_ hw 7 rfl) (ty := .byte) (v' := .int (0 : Int32)) (by decide) rfl rfl (g := (mkF m 23 #[.val (.ref a), .val (.ref b), .val (.int 0), .val (.int 0), .val .null, .unset] [(.int 0), (.ref a)])) rfl rfl (hb hby d_jdk_42_method_149_23)
  refine FinH.by (fun tt_ kk_ => st115 tt_ kk_) ?_
  have N115_ := Fr.snoc X115 N107_ ga
  have sf117 : Safe Z consts_1 T102.vm h107 a := (Safe.wr W107 sf109 ch103.1 sf109)
  have sf118 : Safe Z consts_1 T110.vm h110 a := (CHr.safe hC110 (Nat.lt_of_lt_of_le E0.lt (Nat.le_trans E102.1 (Keep.of_wr W107).1)) sf117)
  have ch116 : CHr Z consts_1 s.vm h0 T110.vm h115 := ch111.trans (CHr.wr W115 sf118 ch111.1)
  have kp119 : Keep h0 h102 [a] := (Keep.refl h0 [a]).ext E102
  have kp120 : Keep h0 h107 [a] := kp119.wr W107 (Or.inl (List.mem_of_getElem? (i := 0) rfl))
  have kp121 : Keep h0 h110 [a] := kp120.ext E110
  have kp122 : Keep h0 h115 [a] := kp121.wr W115 (Or.inl (List.mem_of_getElem? (i := 0) rfl))
  have E123 : Exa Z h115 a "java/lang/String" := (E114.wr W115)
  have F124 : Fld Z h115 a "java/lang/String" "value" "[B" (.ref b102) := (((F105.same W107).ext E110).other W115 (Or.inr (slot_ne (Or.inr (w_ hw 22 rfl)) (Or.inr (w_ hw 23 rfl)) (by decide) (t := (.array .byte)) (t' := .byte) (by decide) (by decide))))
  have ne125 : a ≠ b102 := (hne102 a sf109).2
  have A126 : Arv Z h115 b102 kk102 .byte (0 : Int32) [] (.int 0) := (((xA102.other W107 (Ne.symm ne125)).ext E110).other W115 (Ne.symm ne125))
  show FinH _ _ _ _ _ _ _ _ _ (T115.setTop (mkF m 26 #[.val (.ref a), .val (.ref b), .val (.int 0), .val (.int 0), .val .null, .unset] []))
  exact FinH.ret (v := none) X115 hS110 (by rw [e115]; exact (Nat.le_trans hk110 (Keep.of_wr W115).1)) (fun _ => rfl) Bd.notSynchronized (by rw [e115]; exact ⟨b102, kk102, rfl, N115_, kp122, E123, F124, (F113.same W115), A126⟩) (by rw [hh, e115]; exact ch116.trans (CHv.at X115 hZ110 own_EW ch116.1)) (by decide) (by decide) (fun fs hr => X115.returnOut hx Bd.returns (hb hby d_jdk_42_method_149_26) hr)
def Q_n1e (Z : State) (a : Addr) (b : Addr) (kc : ClassId) (h0 : Heap) (n0 : Nat) (vv_ : Option Value) (hh_ : Heap) (LL_ : List Loc) : Prop := ∃ (t : Addr), ∃ (k : ClassId), vv_ = none ∧ Fr n0 LL_ ∧ Keep h0 hh_ [a] ∧ Exa Z hh_ a "java/lang/String" ∧ Fld Z hh_ a "java/lang/String" "value" "[B" (.ref t) ∧ Fld Z hh_ a "java/lang/String" "coder" "B" (.int (0 : Int32)) ∧ Arv Z hh_ t k .byte (0 : Int32) [] (.int 0)
set_option maxRecDepth 65536 in
set_option maxHeartbeats 40000000 in
theorem rm_n1e (l : Launch) (Z : State) (a0 : Array Value) (hw : ∀ d ∈ tables_1, d.before a0 Z = true) (ws : List Jvm.Cond) (a : Addr) (b : Addr) (kc : ClassId) (h0 : Heap) (n0 : Nat) (Z0 : n0 ≤ h0.size) (E0 : Exa Z h0 a "java/lang/String") (F0 : Fld Z h0 a "java/lang/String" "value" "[B" .null) (F1 : Fld Z h0 a "java/lang/String" "coder" "B" (.int (0 : Int32))) (ga : n0 ≤ a) (A0 : Arv Z h0 b kc .char (0 : Int32) [] (.int (0 : Int32))) :
    MetFree l (⟨"java/lang/String", "<init>", "([C)V"⟩ : MethodName) (head1 (Jvm.Cond.code (⟨"java/lang/String", "<init>", "([C)V"⟩ : MethodName) jdk_42_method_3_code 2 none :: ws) ({ frames := 2, cells := 4, slots := 8, locals := 29 } : Room)) (fun aa_ U => aa_ = #[(.ref a), (.ref b)] ∧ Z.Warmed39 U.vm ∧ U.heap = h0 ∧ CHv Z consts_1 U.vm h0) (fun _ _ _ _ _ => True) (fun _ U o U' => ∃ vv_ LL_, o = .returned vv_ ∧ Q_n1e Z a b kc h0 n0 vv_ U'.heap LL_ ∧ CHr Z consts_1 U.vm U.heap U'.vm U'.heap ∧ ReturnedEndW U o U' LL_ 4 8) := by
  refine MetFree.of_bodySF (plainFor_of_name pn_java_lang_String) hisR ?_
  intro p e s m args below meth c s₁ Bd hml0 hP hK
  obtain ⟨rfl, hZ, hh, hC0⟩ := hP
  have hx := Bd.exec
  have hby := Bd.bytes
  have hml : c.maxLocals = 2 := hml0
  have hown : s.vm.findClass "java/lang/String" = some m.cls := findClass_of_methodNamed Bd.named
  have hnm := (name_of_methodNamed Bd.named Bd.method).1
  have X0 : Stand p l e ({ frames := 2, cells := 4, slots := 8, locals := 29 } : Room) (s.setVm s.vm) m #[(.ref a), (.ref b)] below meth c s₁ [] 0 0 := Stand.of_body Bd
  have e0 : s₁.heap = h0 := by rw [← hh, Bd.state]; rfl
  have N0 := Fr.nil n0
  have ef : entryFrame m #[(.ref a), (.ref b)] 2 = mkF m 0 #[.val (.ref a), .val (.ref b)] [] := by first | (simp [entryFrame, mkF, argsToLocals, Value.category]; done) | rfl
  have hS0 : s.Since s.vm h0.size := (State.WarmedH.refl s).since _
  have hk0 : h0.size ≤ h0.size := Nat.le_refl _
  have own_EW := own_EW0 hw
  have ch0 : CHr Z consts_1 s.vm h0 s.vm h0 := CHr.refl hC0
  refine FinH.start (Q := Q_n1e Z a b kc h0 n0) ef ?_
  refine FinH.by (fun tt_ kk_ => XS.aloadN X0.here hx rfl (hb hby d_jdk_42_method_3_0) rfl rfl (XS.aloadN X0.here hx rfl (hb hby d_jdk_42_method_3_1) rfl rfl (XS.iconst X0.here hx rfl (hb hby d_jdk_42_method_3_2) (XS.aloadN X0.here hx rfl (hb hby d_jdk_42_method_3_3) rfl rfl kk_)))) ?_
  obtain ⟨cl101, Ar101, q101, S101, N101, H101, G101⟩ := id A0
  refine FinH.by (fun tt_ kk_ => X0.arraylength hx (by rw [e0]; exact Ar101.1) (State.isArrayOf_alike hZ.alike Ar101.2.1) (g := (mkF m 4 #[.val (.ref a), .val (.ref b)] [(.ref b), (.int 0), (.ref b), (.ref a)])) rfl rfl (hb hby d_jdk_42_method_3_4) _ kk_) ?_
  rw [len_of S101 N101]
  refine FinH.by (fun tt_ kk_ => XS.aconstNull X0.here hx rfl (hb hby d_jdk_42_method_3_5) kk_) ?_
  obtain ⟨v102, _, ⟨T102, L102, k102, n102⟩, -, X102, hS102, hg102, ⟨Lc102, hQ102, l102, y102, z102, hC102⟩, st102⟩ := X0.specialBackS hx (y := y_15) rfl hown (mvT hZ (w_ hw 13 rfl)) (mvT hZ (w_ hw 14 rfl)) (mvT hZ (w_ hw 16 rfl)) (by decide) (backOfSH (W := 0) (rm_n4e l Z a0 hw [] a b h0 n0 Z0 E0 F0 F1 ga) hZ (w_ hw 16 rfl) (w_ hw 8 rfl) (by decide) (by decide) own_EW ch0.1) (g := (mkF m 6 #[.val (.ref a), .val (.ref b)] [.null, (.int 0), (.int 0), (.ref b), (.ref a)])) rfl (by rw [hml]; rfl) (Steps.refl _) (a := a) (argsL := [(.ref b), (.int 0), (.int 0), .null]) (rest := []) (lenOf pd_243 rfl) rfl (by show 2 * 0 + _ ≤ _; exact Nat.le_of_eq rfl) (hb hby d_jdk_42_method_3_6) (fun _ _ => ⟨rfl, e0, (by decide : 0 + 4 ≤ _), (by decide : 0 + 8 ≤ _)⟩)
  dsimp only [Pt.U, Pt.locs, Pt.cells, Pt.slots] at X102 l102 y102 z102 st102 hQ102 hS102 hg102 hC102
  subst l102 y102 z102
  obtain ⟨t103, k104, rfl, Nq102, p102_0, p102_1, p102_2, p102_3, p102_4⟩ := hQ102
  have N102_ := Fr.app N0 Nq102
  refine FinH.byS st102 ?_
  obtain ⟨X102w, hS102w, hZ102, hown102⟩ := rebS hS0 (by rw [e0]; exact hk0) X102 hS102 hg102 hZ hown
  have ch105 : CHr Z consts_1 s.vm h0 T102.vm T102.heap := ch0.trans hC102
  have kp106 : Keep h0 T102.heap [a] := (Keep.refl h0 [a]).trans p102_0 (allS (Or.inl (List.mem_of_getElem? (i := 0) rfl)) all0)
  show FinH _ _ _ _ _ _ _ _ _ (T102.setTop (mkF m 9 #[.val (.ref a), .val (.ref b)] []))
  exact FinH.ret (v := none) X102w hS102w ((Nat.le_refl _)) (fun _ => rfl) Bd.notSynchronized (⟨t103, k104, rfl, N102_, kp106, p102_1, p102_2, p102_3, p102_4⟩) (by rw [hh]; exact ch105.trans (CHv.at X102w hZ102 own_EW ch105.1)) (by decide) (by decide) (fun fs hr => X102w.returnOut hx Bd.returns (hb hby d_jdk_42_method_3_9) hr)
abbrev y_17 : MethodName := (⟨"java/lang/String", "<init>", "([C)V"⟩ : MethodName)
theorem d_method_2_0 : decode method_2_code 0 = .ok (.iload_n 0, 1) := by decide +kernel
theorem d_method_2_1 : decode method_2_code 1 = .ok (.ifCond .ne 14, 3) := by decide +kernel
theorem d_method_2_4 : decode method_2_code 4 = .ok (.new 7, 3) := by decide +kernel
theorem d_method_2_7 : decode method_2_code 7 = .ok (.dup, 1) := by decide +kernel
theorem d_method_2_8 : decode method_2_code 8 = .ok (.iconst 0, 1) := by decide +kernel
theorem d_method_2_9 : decode method_2_code 9 = .ok (.newarray .char, 2) := by decide +kernel
theorem pd_275 : parseMethodDescriptor "([C)V" = some ⟨[(.array .char)], none⟩ := by decide +kernel
theorem d_method_2_11 : decode method_2_code 11 = .ok (.invokespecial 9, 3) := by decide +kernel
theorem d_method_2_14 : decode method_2_code 14 = .ok (.areturn, 1) := by decide +kernel
theorem d_method_2_15 : decode method_2_code 15 = .ok (.iload_n 0, 1) := by decide +kernel
theorem d_method_2_16 : decode method_2_code 16 = .ok (.iconst 1, 1) := by decide +kernel
theorem d_method_2_17 : decode method_2_code 17 = .ok (.if_icmp .ne 23, 3) := by decide +kernel
theorem d_method_2_20 : decode method_2_code 20 = .ok (.iconst 1, 1) := by decide +kernel
theorem d_method_2_21 : decode method_2_code 21 = .ok (.newarray .char, 2) := by decide +kernel
theorem d_method_2_23 : decode method_2_code 23 = .ok (.astore 4, 2) := by decide +kernel
theorem d_method_2_25 : decode method_2_code 25 = .ok (.aload 4, 2) := by decide +kernel
theorem d_method_2_27 : decode method_2_code 27 = .ok (.iconst 0, 1) := by decide +kernel
theorem d_method_2_28 : decode method_2_code 28 = .ok (.iload_n 1, 1) := by decide +kernel
theorem d_method_2_29 : decode method_2_code 29 = .ok (.castore, 1) := by decide +kernel
theorem d_method_2_30 : decode method_2_code 30 = .ok (.new 7, 3) := by decide +kernel
theorem d_method_2_33 : decode method_2_code 33 = .ok (.dup, 1) := by decide +kernel
theorem d_method_2_34 : decode method_2_code 34 = .ok (.aload 4, 2) := by decide +kernel
theorem d_method_2_36 : decode method_2_code 36 = .ok (.invokespecial 9, 3) := by decide +kernel
theorem d_method_2_39 : decode method_2_code 39 = .ok (.areturn, 1) := by decide +kernel
theorem d_method_2_40 : decode method_2_code 40 = .ok (.iload_n 0, 1) := by decide +kernel
theorem d_method_2_41 : decode method_2_code 41 = .ok (.iconst 2, 1) := by decide +kernel
theorem d_method_2_42 : decode method_2_code 42 = .ok (.if_icmp .ne 28, 3) := by decide +kernel
theorem d_method_2_45 : decode method_2_code 45 = .ok (.iconst 2, 1) := by decide +kernel
theorem d_method_2_46 : decode method_2_code 46 = .ok (.newarray .char, 2) := by decide +kernel
theorem d_method_2_48 : decode method_2_code 48 = .ok (.astore 4, 2) := by decide +kernel
theorem d_method_2_50 : decode method_2_code 50 = .ok (.aload 4, 2) := by decide +kernel
theorem d_method_2_52 : decode method_2_code 52 = .ok (.iconst 0, 1) := by decide +kernel
theorem d_method_2_53 : decode method_2_code 53 = .ok (.iload_n 1, 1) := by decide +kernel
theorem d_method_2_54 : decode method_2_code 54 = .ok (.castore, 1) := by decide +kernel
theorem d_method_2_55 : decode method_2_code 55 = .ok (.aload 4, 2) := by decide +kernel
theorem d_method_2_57 : decode method_2_code 57 = .ok (.iconst 1, 1) := by decide +kernel
theorem d_method_2_58 : decode method_2_code 58 = .ok (.iload_n 2, 1) := by decide +kernel
theorem d_method_2_59 : decode method_2_code 59 = .ok (.castore, 1) := by decide +kernel
theorem d_method_2_60 : decode method_2_code 60 = .ok (.new 7, 3) := by decide +kernel
theorem d_method_2_63 : decode method_2_code 63 = .ok (.dup, 1) := by decide +kernel
theorem d_method_2_64 : decode method_2_code 64 = .ok (.aload 4, 2) := by decide +kernel
theorem d_method_2_66 : decode method_2_code 66 = .ok (.invokespecial 9, 3) := by decide +kernel
theorem d_method_2_69 : decode method_2_code 69 = .ok (.areturn, 1) := by decide +kernel
theorem d_method_2_70 : decode method_2_code 70 = .ok (.iconst 3, 1) := by decide +kernel
theorem d_method_2_71 : decode method_2_code 71 = .ok (.newarray .char, 2) := by decide +kernel
theorem d_method_2_73 : decode method_2_code 73 = .ok (.astore 4, 2) := by decide +kernel
theorem d_method_2_75 : decode method_2_code 75 = .ok (.aload 4, 2) := by decide +kernel
theorem d_method_2_77 : decode method_2_code 77 = .ok (.iconst 0, 1) := by decide +kernel
theorem d_method_2_78 : decode method_2_code 78 = .ok (.iload_n 1, 1) := by decide +kernel
theorem d_method_2_79 : decode method_2_code 79 = .ok (.castore, 1) := by decide +kernel
theorem d_method_2_80 : decode method_2_code 80 = .ok (.aload 4, 2) := by decide +kernel
theorem d_method_2_82 : decode method_2_code 82 = .ok (.iconst 1, 1) := by decide +kernel
theorem d_method_2_83 : decode method_2_code 83 = .ok (.iload_n 2, 1) := by decide +kernel
theorem d_method_2_84 : decode method_2_code 84 = .ok (.castore, 1) := by decide +kernel
theorem d_method_2_85 : decode method_2_code 85 = .ok (.aload 4, 2) := by decide +kernel
theorem d_method_2_87 : decode method_2_code 87 = .ok (.iconst 2, 1) := by decide +kernel
theorem d_method_2_88 : decode method_2_code 88 = .ok (.iload_n 3, 1) := by decide +kernel
theorem d_method_2_89 : decode method_2_code 89 = .ok (.castore, 1) := by decide +kernel
theorem d_method_2_90 : decode method_2_code 90 = .ok (.new 7, 3) := by decide +kernel
theorem d_method_2_93 : decode method_2_code 93 = .ok (.dup, 1) := by decide +kernel
theorem d_method_2_94 : decode method_2_code 94 = .ok (.aload 4, 2) := by decide +kernel
theorem d_method_2_96 : decode method_2_code 96 = .ok (.invokespecial 9, 3) := by decide +kernel
theorem d_method_2_99 : decode method_2_code 99 = .ok (.areturn, 1) := by decide +kernel
theorem pn_com_example_colonnade_colonnade_WordBufferAddPinLaw : plainName "com/example/colonnade/colonnade/WordBufferAddPinLaw" = true := by first | (simp [plainName, overriddenIn]; done) | decide +kernel
def Q_pre (Z : State) (mm : Int32) (c0 : Int32) (c1 : Int32) (c2 : Int32) (G1 : Int32) (h0 : Heap) (n0 : Nat) (vv_ : Option Value) (hh_ : Heap) (LL_ : List Loc) : Prop := ∃ (x : Addr), ∃ (t : Addr), ∃ (kb : ClassId), ∃ (N2 : Int32), ∃ (vs : List Value), ∃ (cd : Int32), vv_ = some (.ref x) ∧ Fr n0 LL_ ∧ Keep h0 hh_ [] ∧ Exa Z hh_ x "java/lang/String" ∧ Fld Z hh_ x "java/lang/String" "value" "[B" (.ref t) ∧ Fld Z hh_ x "java/lang/String" "coder" "B" (.int cd) ∧ Arv Z hh_ t kb .byte N2 vs (.int 0) ∧ (StrChars.Road.CodA (own_pre mm (nar .char c0) (nar .char c1) (nar .char c2)) cd N2 vs)
set_option maxRecDepth 65536 in
set_option maxHeartbeats 40000000 in
theorem rm_pre (l : Launch) (Z : State) (a0 : Array Value) (hw : ∀ d ∈ tables_1, d.before a0 Z = true) (ws : List Jvm.Cond) (mm : Int32) (c0 : Int32) (c1 : Int32) (c2 : Int32) (G1 : Int32) (h0 : Heap) (n0 : Nat) (Z0 : n0 ≤ h0.size) (S1 : Sta Z Z.heap "java/lang/String" "COMPACT_STRINGS" "Z" (.int G1)) (P1 : ¬ G1 = 0) (S6 : Sta Z Z.heap "java/lang/StringUTF16" "$assertionsDisabled" "Z" (.int (1 : Int32))) (S7 : Sta Z Z.heap "java/lang/StringUTF16" "HI_BYTE_SHIFT" "I" (.int (0 : Int32))) (S8 : Sta Z Z.heap "java/lang/StringUTF16" "LO_BYTE_SHIFT" "I" (.int (8 : Int32))) (OL : Old Z n0 h0) :
    MetFree l (⟨"com/example/colonnade/colonnade/WordBufferAddPinLaw", "prefix", "(ICCC)Ljava/lang/String;"⟩ : MethodName) (head1 (Jvm.Cond.code (⟨"com/example/colonnade/colonnade/WordBufferAddPinLaw", "prefix", "(ICCC)Ljava/lang/String;"⟩ : MethodName) method_2_code 5 (some (.object "java/lang/String")) :: ws) ({ frames := 6, cells := 6, slots := 16, locals := 88 } : Room)) (fun aa_ U => aa_ = #[(.int mm), (.int c0), (.int c1), (.int c2)] ∧ Z.Warmed39 U.vm ∧ U.heap = h0 ∧ CHv Z consts_1 U.vm h0) (fun _ _ _ _ _ => True) (fun _ U o U' => ∃ vv_ LL_, o = .returned vv_ ∧ Q_pre Z mm c0 c1 c2 G1 h0 n0 vv_ U'.heap LL_ ∧ CHr Z consts_1 U.vm U.heap U'.vm U'.heap ∧ ReturnedEndW U o U' LL_ 6 16) := by
  refine MetFree.of_bodySF (plainFor_of_name pn_com_example_colonnade_colonnade_WordBufferAddPinLaw) hisR ?_
  intro p e s m args below meth c s₁ Bd hml0 hP hK
  obtain ⟨rfl, hZ, hh, hC0⟩ := hP
  have hx := Bd.exec
  have hby := Bd.bytes
  have hml : c.maxLocals = 5 := hml0
  have hown : s.vm.findClass "com/example/colonnade/colonnade/WordBufferAddPinLaw" = some m.cls := findClass_of_methodNamed Bd.named
  have hnm := (name_of_methodNamed Bd.named Bd.method).1
  have X0 : Stand p l e ({ frames := 6, cells := 6, slots := 16, locals := 88 } : Room) (s.setVm s.vm) m #[(.int mm), (.int c0), (.int c1), (.int c2)] below meth c s₁ [] 0 0 := Stand.of_body Bd
  have e0 : s₁.heap = h0 := by rw [← hh, Bd.state]; rfl
  have N0 := Fr.nil n0
  have ef : entryFrame m #[(.int mm), (.int c0), (.int c1), (.int c2)] 5 = mkF m 0 #[.val (.int mm), .val (.int c0), .val (.int c1), .val (.int c2), .unset] [] := by first | (simp [entryFrame, mkF, argsToLocals, Value.category]; done) | rfl
  have hS0 : s.Since s.vm h0.size := (State.WarmedH.refl s).since _
  have hk0 : h0.size ≤ h0.size := Nat.le_refl _
  have own_EW := own_EW0 hw
  have ch0 : CHr Z consts_1 s.vm h0 s.vm h0 := CHr.refl hC0
  refine FinH.start (Q := Q_pre Z mm c0 c1 c2 G1 h0 n0) ef ?_
  refine FinH.by (fun tt_ kk_ => XS.iloadN X0.here hx rfl (hb hby d_method_2_0) rfl kk_) ?_
  show FinH _ _ _ _ _ _ _ _ _ (s₁.setTop (mkF m 1 #[.val (.int mm), .val (.int c0), .val (.int c1), .val (.int c2), .unset] [(.int mm)]))
  by_cases hm0 : mm = (0 : Int32)
  · refine FinH.by (fun tt_ kk_ => XS.ifNo X0.here hx rfl (hb hby d_method_2_1) rfl ((if0 _ _).trans (teq hm0).2) kk_) ?_
    obtain ⟨T101, h101, X101, e101, E101, A101, D101, -, st101⟩ := newO X0 hx hZ hown (w_ hw 6 rfl) (w_ hw 7 rfl) (w_ hw 8 rfl) e0 (g := (mkF m 4 #[.val (.int mm), .val (.int c0), .val (.int c1), .val (.int c2), .unset] [])) rfl (hb hby d_method_2_4) (by decide) (by decide)
    obtain ⟨a101, g101⟩ : ∃ z, z = h0.size := ⟨_, rfl⟩
    rw [← g101] at A101 D101 st101
    refine FinH.by (fun tt_ kk_ => st101 tt_ kk_) ?_
    have ch102 : CHr Z consts_1 s.vm h0 s.vm h101 := ch0.trans (CHr.ext E101 ch0.1)
    refine FinH.by (fun tt_ kk_ => XS.dup X101.here hx rfl (hb hby d_method_2_7) rfl rfl (XS.iconst X101.here hx rfl (hb hby d_method_2_8) kk_)) ?_
    obtain ⟨T103, h103, k103, X103, e103, E103, A103, st103⟩ := newP X101 hx hZ (w_ hw 9 rfl) e101 (g := (mkF m 9 #[.val (.int mm), .val (.int c0), .val (.int c1), .val (.int c2), .unset] [(.int 0), (.ref a101), (.ref a101)])) rfl (hb hby d_method_2_9) rfl (by decide) (cap := 0) (by decide) (by decide) (by decide) (by decide)
    obtain ⟨a103, g103⟩ : ∃ z, z = h101.size := ⟨_, rfl⟩
    rw [← g103] at A103 st103
    refine FinH.by (fun tt_ kk_ => st103 tt_ kk_) ?_
    have ch104 : CHr Z consts_1 s.vm h0 s.vm h103 := ch102.trans (CHr.ext E103 ch102.1)
    have V103 : Arv Z h103 a103 k103 .char (0 : Int32) [] (.int (0 : Int32)) := Arv.new A103 (by decide)
    have E105 : Exa Z h103 a101 "java/lang/String" := (A101.ext E103)
    have F106 : Fld Z h103 a101 "java/lang/String" "value" "[B" .null := ((D101 (Or.inr (w_ hw 22 rfl)) (ty := (.array .byte)) (by decide) : Fld Z h101 a101 "java/lang/String" "value" "[B" .null).ext E103)
    have F107 : Fld Z h103 a101 "java/lang/String" "coder" "B" (.int (0 : Int32)) := ((D101 (Or.inr (w_ hw 23 rfl)) (ty := .byte) (by decide) : Fld Z h101 a101 "java/lang/String" "coder" "B" (.int (0 : Int32))).ext E103)
    have g108 : n0 ≤ a101 := Nat.le_trans Z0 (Nat.le_of_eq g101.symm)
    have z109 : n0 ≤ h103.size := Nat.le_trans Z0 (Nat.le_trans E101.1 E103.1)
    obtain ⟨v110, _, ⟨T110, L110, k110, n110⟩, -, X110, hS110, hg110, ⟨Lc110, hQ110, l110, y110, z110, hC110⟩, st110⟩ := X103.specialBackS hx (y := y_17) rfl hown (mvT hZ (w_ hw 10 rfl)) (mvT hZ (w_ hw 11 rfl)) (mvT hZ (w_ hw 12 rfl)) (by decide) (backOfSH (W := 1) (rm_n1e l Z a0 hw [] a101 a103 k103 h103 n0 z109 E105 F106 F107 g108 V103) hZ (w_ hw 12 rfl) (w_ hw 8 rfl) (by decide) (by decide) own_EW ch104.1) (g := (mkF m 11 #[.val (.int mm), .val (.int c0), .val (.int c1), .val (.int c2), .unset] [(.ref a103), (.ref a101), (.ref a101)])) rfl (by rw [hml]; rfl) (Steps.refl _) (a := a101) (argsL := [(.ref a103)]) (rest := [(.ref a101)]) (lenOf pd_275 rfl) rfl (by show 2 * 0 + _ ≤ _; exact Nat.le_of_eq rfl) (hb hby d_method_2_11) (fun _ _ => ⟨rfl, e103, (by decide : 2 + 4 ≤ _), (by decide : 4 + 8 ≤ _)⟩)
    dsimp only [Pt.U, Pt.locs, Pt.cells, Pt.slots] at X110 l110 y110 z110 st110 hQ110 hS110 hg110 hC110
    subst l110 y110 z110
    obtain ⟨t111, k112, rfl, Nq110, p110_0, p110_1, p110_2, p110_3, p110_4⟩ := hQ110
    have N110_ := Fr.app N0 Nq110
    refine FinH.byS st110 ?_
    obtain ⟨X110w, hS110w, hZ110, hown110⟩ := rebS hS0 (by rw [e103]; exact (Nat.le_trans hk0 (Nat.le_trans E101.1 E103.1))) X110 hS110 hg110 hZ hown
    have ch113 : CHr Z consts_1 s.vm h0 T110.vm T110.heap := ch104.trans hC110
    have kp114 : Keep h0 h101 [] := (Keep.refl h0 []).ext E101
    have kp115 : Keep h0 h103 [] := kp114.ext E103
    have kp116 : Keep h0 T110.heap [] := kp115.trans p110_0 (allS (Or.inr (Nat.le_trans (Nat.le_refl _) (Nat.le_of_eq g101.symm))) all0)
    show FinH _ _ _ _ _ _ _ _ _ (T110.setTop (mkF m 14 #[.val (.int mm), .val (.int c0), .val (.int c1), .val (.int c2), .unset] [(.ref a101)]))
    exact FinH.ret (v := some (.ref a101)) X110w hS110w ((Nat.le_refl _)) (fun h => by rw [Bd.returns] at h; cases h) Bd.notSynchronized (⟨a101, t111, k112, (0 : Int32), [], (0 : Int32), rfl, N110_, kp116, p110_1, p110_2, p110_3, p110_4, (by unfold own_pre; rw [if_pos hm0]; exact Or.inl ⟨rfl, rfl, rfl, own_nil⟩)⟩) (by rw [hh]; exact ch113.trans (CHv.at X110w hZ110 own_EW ch113.1)) (by decide) (by decide) (fun fs hr => retA X110w hx Bd.returns rfl rfl (hb hby d_method_2_14) hr)
  · refine FinH.by (fun tt_ kk_ => XS.ifYes X0.here hx rfl (pc0 := 1) (pc' := 15) rfl (hb hby d_method_2_1) rfl ((if0 _ _).trans (feq hm0).2) (by decide) (by decide) kk_) ?_
    refine FinH.by (fun tt_ kk_ => XS.iloadN X0.here hx rfl (hb hby d_method_2_15) rfl (XS.iconst X0.here hx rfl (hb hby d_method_2_16) kk_)) ?_
    show FinH _ _ _ _ _ _ _ _ _ (s₁.setTop (mkF m 17 #[.val (.int mm), .val (.int c0), .val (.int c1), .val (.int c2), .unset] [(.int 1), (.int mm)]))
    by_cases hm1 : mm = (1 : Int32)
    · refine FinH.by (fun tt_ kk_ => XS.icmpNo X0.here hx rfl (hb hby d_method_2_17) rfl (teq hm1).2 kk_) ?_
      refine FinH.by (fun tt_ kk_ => XS.iconst X0.here hx rfl (hb hby d_method_2_20) kk_) ?_
      obtain ⟨T117, h117, k117, X117, e117, E117, A117, st117⟩ := newP X0 hx hZ (w_ hw 9 rfl) e0 (g := (mkF m 21 #[.val (.int mm), .val (.int c0), .val (.int c1), .val (.int c2), .unset] [(.int 1)])) rfl (hb hby d_method_2_21) rfl (by decide) (cap := 1) (by decide) (by decide) (by decide) (by decide)
      obtain ⟨a117, g117⟩ : ∃ z, z = h0.size := ⟨_, rfl⟩
      rw [← g117] at A117 st117
      refine FinH.by (fun tt_ kk_ => st117 tt_ kk_) ?_
      have ch118 : CHr Z consts_1 s.vm h0 s.vm h117 := ch0.trans (CHr.ext E117 ch0.1)
      have V117 : Arv Z h117 a117 k117 .char (1 : Int32) [(.int (0 : Int32))] (.int (0 : Int32)) := (Arv.new A117 (by decide)).pad (pad_rep [] (.int (0 : Int32)) 1)
      refine FinH.by (fun tt_ kk_ => XS.astore X117.here hx rfl (hb hby d_method_2_23) rfl rfl (l' := #[.val (.int mm), .val (.int c0), .val (.int c1), .val (.int c2), .val (.ref a117)]) rfl (XS.aload X117.here hx rfl (hb hby d_method_2_25) rfl rfl (XS.iconst X117.here hx rfl (hb hby d_method_2_27) (XS.iloadN X117.here hx rfl (hb hby d_method_2_28) rfl kk_)))) ?_
      obtain ⟨cl119, Ar119, q119, S119, N119, H119, G119⟩ := id V117
      obtain ⟨T119, h119, X119, e119, W119, st119⟩ := stC X117 hx hZ e117 Ar119 (j := (0 : Int32)) (inb_of S119 ⟨by decide, by decide⟩) (g := (mkF m 29 #[.val (.int mm), .val (.int c0), .val (.int c1), .val (.int c2), .val (.ref a117)] [(.int c0), (.int 0), (.ref a117)])) rfl rfl (hb hby d_method_2_29)
      have V119 : Arv Z h119 a117 k117 .char (1 : Int32) [(.int (nar .char c0))] (.int (0 : Int32)) := Arv.set Ar119 q119 S119 N119 H119 G119 (fits_nar_char _) W119 0 rfl (Nat.le_of_ble_eq_true rfl)
      have g120 : n0 ≤ a117 := Nat.le_trans Z0 (Nat.le_of_eq g117.symm)
      refine FinH.by (fun tt_ kk_ => st119 tt_ kk_) ?_
      have N119_ := Fr.snoc X119 N0 g120
      have sf122 : Safe Z consts_1 s.vm h117 a117 := (Safe.ext E117 ch0.1 (Safe.new (Nat.le_of_eq g117.symm)))
      have ch121 : CHr Z consts_1 s.vm h0 s.vm h119 := ch118.trans (CHr.wr W119 sf122 ch118.1)
      obtain ⟨T123, h123, X123, e123, E123, A123, D123, -, st123⟩ := newO X119 hx hZ hown (w_ hw 6 rfl) (w_ hw 7 rfl) (w_ hw 8 rfl) e119 (g := (mkF m 30 #[.val (.int mm), .val (.int c0), .val (.int c1), .val (.int c2), .val (.ref a117)] [])) rfl (hb hby d_method_2_30) (by decide) (by decide)
      obtain ⟨a123, g123⟩ : ∃ z, z = h119.size := ⟨_, rfl⟩
      rw [← g123] at A123 D123 st123
      refine FinH.by (fun tt_ kk_ => st123 tt_ kk_) ?_
      have ch124 : CHr Z consts_1 s.vm h0 s.vm h123 := ch121.trans (CHr.ext E123 ch121.1)
      refine FinH.by (fun tt_ kk_ => XS.dup X123.here hx rfl (hb hby d_method_2_33) rfl rfl (XS.aload X123.here hx rfl (hb hby d_method_2_34) rfl rfl kk_)) ?_
      have z126 : n0 ≤ h119.size := Nat.le_trans Z0 (Nat.le_trans E117.1 (Keep.of_wr W119).1)
      have g125 : n0 ≤ a123 := Nat.le_trans z126 (Nat.le_of_eq g123.symm)
      have A127 : Arv Z h123 a117 k117 .char (1 : Int32) [(.int (nar .char c0))] (.int (0 : Int32)) := (V119.ext E123)
      have O128 : Old Z n0 h123 := (((OL.ext E117).wr W119 g120).ext E123)
      have z129 : n0 ≤ h123.size := Nat.le_trans Z0 (Nat.le_trans (Nat.le_trans E117.1 (Keep.of_wr W119).1) E123.1)
      obtain ⟨v130, _, ⟨T130, L130, k130, n130⟩, -, X130, ⟨Lc130, hQ130, l130, y130, z130⟩, st130⟩ := X123.specialBack hx (y := y_17) rfl hown (mvT hZ (w_ hw 10 rfl)) (mvT hZ (w_ hw 11 rfl)) (mvT hZ (w_ hw 12 rfl)) (by decide) (backOf (W := 1) (rm_n1_1 l Z a0 hw [] a123 a117 k117 (nar .char c0) G1 h123 n0 z129 A123 (D123 (Or.inr (w_ hw 22 rfl)) (ty := (.array .byte)) (by decide) : Fld Z h123 a123 "java/lang/String" "value" "[B" .null) (D123 (Or.inr (w_ hw 23 rfl)) (ty := .byte) (by decide) : Fld Z h123 a123 "java/lang/String" "coder" "B" (.int (0 : Int32))) g125 A127 (own_nb _) S1 P1 S6 S7 S8 O128) hZ (w_ hw 12 rfl) (w_ hw 8 rfl) (by decide) (by decide)) (g := (mkF m 36 #[.val (.int mm), .val (.int c0), .val (.int c1), .val (.int c2), .val (.ref a117)] [(.ref a117), (.ref a123), (.ref a123)])) rfl (by rw [hml]; rfl) (Steps.refl _) (a := a123) (argsL := [(.ref a117)]) (rest := [(.ref a123)]) (lenOf pd_275 rfl) rfl (by show 2 * 0 + _ ≤ _; exact Nat.le_of_eq rfl) (hb hby d_method_2_36) (fun _ _ => ⟨rfl, e123, (by decide : 2 + 2 ≤ _), (by decide : 5 + 3 ≤ _)⟩)
      dsimp only [Pt.U, Pt.locs, Pt.cells, Pt.slots] at X130 l130 y130 z130 st130 hQ130
      subst l130 y130 z130
      obtain ⟨t131, k132, cd133, N134, vs135, rfl, Nq130, p130_0, p130_1, p130_2, p130_3, p130_4, p130_5, p130_6⟩ := hQ130
      have N130_ := Fr.app N119_ Nq130
      refine FinH.byS st130 ?_
      have sf137 : Safe Z consts_1 s.vm h123 a123 := (Safe.ext E123 ch121.1 (Safe.new (Nat.le_of_eq g123.symm)))
      have ch136 : CHr Z consts_1 s.vm h0 s.vm T130.heap := ch124.trans (CHr.keep p130_0 (allS sf137 all0) ch124.1)
      have kp138 : Keep h0 h117 [] := (Keep.refl h0 []).ext E117
      have kp139 : Keep h0 h119 [] := kp138.wr W119 (Or.inr (Nat.le_trans (Nat.le_refl _) (Nat.le_of_eq g117.symm)))
      have kp140 : Keep h0 h123 [] := kp139.ext E123
      have kp141 : Keep h0 T130.heap [] := kp140.trans p130_0 (allS (Or.inr (Nat.le_trans (Nat.le_trans E117.1 (Keep.of_wr W119).1) (Nat.le_of_eq g123.symm))) all0)
      show FinH _ _ _ _ _ _ _ _ _ (T130.setTop (mkF m 39 #[.val (.int mm), .val (.int c0), .val (.int c1), .val (.int c2), .val (.ref a117)] [(.ref a123)]))
      exact FinH.ret (v := some (.ref a123)) X130 hS0 ((Nat.le_trans hk0 (Nat.le_trans (Nat.le_trans (Nat.le_trans E117.1 (Keep.of_wr W119).1) E123.1) p130_0.1))) (fun h => by rw [Bd.returns] at h; cases h) Bd.notSynchronized (⟨a123, t131, k132, N134, vs135, cd133, rfl, N130_, kp141, p130_2, p130_3, p130_4, p130_5, (by unfold own_pre; rw [if_neg hm0, if_pos hm1]; exact p130_6)⟩) (by rw [hh]; exact ch136.trans (CHv.at X130 hZ own_EW ch136.1)) (by decide) (by decide) (fun fs hr => retA X130 hx Bd.returns rfl rfl (hb hby d_method_2_39) hr)
    · refine FinH.by (fun tt_ kk_ => XS.icmpYes X0.here hx rfl (pc0 := 17) (pc' := 40) rfl (hb hby d_method_2_17) rfl (feq hm1).2 (by decide) (by decide) kk_) ?_
      refine FinH.by (fun tt_ kk_ => XS.iloadN X0.here hx rfl (hb hby d_method_2_40) rfl (XS.iconst X0.here hx rfl (hb hby d_method_2_41) kk_)) ?_
      show FinH _ _ _ _ _ _ _ _ _ (s₁.setTop (mkF m 42 #[.val (.int mm), .val (.int c0), .val (.int c1), .val (.int c2), .unset] [(.int 2), (.int mm)]))
      by_cases hm2 : mm = (2 : Int32)
      · refine FinH.by (fun tt_ kk_ => XS.icmpNo X0.here hx rfl (hb hby d_method_2_42) rfl (teq hm2).2 kk_) ?_
        refine FinH.by (fun tt_ kk_ => XS.iconst X0.here hx rfl (hb hby d_method_2_45) kk_) ?_
        obtain ⟨T142, h142, k142, X142, e142, E142, A142, st142⟩ := newP X0 hx hZ (w_ hw 9 rfl) e0 (g := (mkF m 46 #[.val (.int mm), .val (.int c0), .val (.int c1), .val (.int c2), .unset] [(.int 2)])) rfl (hb hby d_method_2_46) rfl (by decide) (cap := 2) (by decide) (by decide) (by decide) (by decide)
        obtain ⟨a142, g142⟩ : ∃ z, z = h0.size := ⟨_, rfl⟩
        rw [← g142] at A142 st142
        refine FinH.by (fun tt_ kk_ => st142 tt_ kk_) ?_
        have ch143 : CHr Z consts_1 s.vm h0 s.vm h142 := ch0.trans (CHr.ext E142 ch0.1)
        have V142 : Arv Z h142 a142 k142 .char (2 : Int32) [(.int (0 : Int32)), (.int (0 : Int32))] (.int (0 : Int32)) := (Arv.new A142 (by decide)).pad (pad_rep [] (.int (0 : Int32)) 2)
        refine FinH.by (fun tt_ kk_ => XS.astore X142.here hx rfl (hb hby d_method_2_48) rfl rfl (l' := #[.val (.int mm), .val (.int c0), .val (.int c1), .val (.int c2), .val (.ref a142)]) rfl (XS.aload X142.here hx rfl (hb hby d_method_2_50) rfl rfl (XS.iconst X142.here hx rfl (hb hby d_method_2_52) (XS.iloadN X142.here hx rfl (hb hby d_method_2_53) rfl kk_)))) ?_
        obtain ⟨cl144, Ar144, q144, S144, N144, H144, G144⟩ := id V142
        obtain ⟨T144, h144, X144, e144, W144, st144⟩ := stC X142 hx hZ e142 Ar144 (j := (0 : Int32)) (inb_of S144 ⟨by decide, by decide⟩) (g := (mkF m 54 #[.val (.int mm), .val (.int c0), .val (.int c1), .val (.int c2), .val (.ref a142)] [(.int c0), (.int 0), (.ref a142)])) rfl rfl (hb hby d_method_2_54)
        have V144 : Arv Z h144 a142 k142 .char (2 : Int32) [(.int (nar .char c0)), (.int (0 : Int32))] (.int (0 : Int32)) := Arv.set Ar144 q144 S144 N144 H144 G144 (fits_nar_char _) W144 0 rfl (Nat.le_of_ble_eq_true rfl)
        have g145 : n0 ≤ a142 := Nat.le_trans Z0 (Nat.le_of_eq g142.symm)
        refine FinH.by (fun tt_ kk_ => st144 tt_ kk_) ?_
        have N144_ := Fr.snoc X144 N0 g145
        have sf147 : Safe Z consts_1 s.vm h142 a142 := (Safe.ext E142 ch0.1 (Safe.new (Nat.le_of_eq g142.symm)))
        have ch146 : CHr Z consts_1 s.vm h0 s.vm h144 := ch143.trans (CHr.wr W144 sf147 ch143.1)
        refine FinH.by (fun tt_ kk_ => XS.aload X144.here hx rfl (hb hby d_method_2_55) rfl rfl (XS.iconst X144.here hx rfl (hb hby d_method_2_57) (XS.iloadN X144.here hx rfl (hb hby d_method_2_58) rfl kk_))) ?_
        obtain ⟨cl148, Ar148, q148, S148, N148, H148, G148⟩ := id V144
        obtain ⟨T148, h148, X148, e148, W148, st148⟩ := stC X144 hx hZ e144 Ar148 (j := (1 : Int32)) (inb_of S148 ⟨by decide, by decide⟩) (g := (mkF m 59 #[.val (.int mm), .val (.int c0), .val (.int c1), .val (.int c2), .val (.ref a142)] [(.int c1), (.int 1), (.ref a142)])) rfl rfl (hb hby d_method_2_59)
        have V148 : Arv Z h148 a142 k142 .char (2 : Int32) [(.int (nar .char c0)), (.int (nar .char c1))] (.int (0 : Int32)) := Arv.set Ar148 q148 S148 N148 H148 G148 (fits_nar_char _) W148 1 rfl (Nat.le_of_ble_eq_true rfl)
        refine FinH.by (fun tt_ kk_ => st148 tt_ kk_) ?_
        have N148_ := Fr.snoc X148 N144_ g145
        have sf150 : Safe Z consts_1 s.vm h144 a142 := (Safe.wr W144 sf147 ch143.1 sf147)
        have ch149 : CHr Z consts_1 s.vm h0 s.vm h148 := ch146.trans (CHr.wr W148 sf150 ch146.1)
        obtain ⟨T151, h151, X151, e151, E151, A151, D151, -, st151⟩ := newO X148 hx hZ hown (w_ hw 6 rfl) (w_ hw 7 rfl) (w_ hw 8 rfl) e148 (g := (mkF m 60 #[.val (.int mm), .val (.int c0), .val (.int c1), .val (.int c2), .val (.ref a142)] [])) rfl (hb hby d_method_2_60) (by decide) (by decide)
        obtain ⟨a151, g151⟩ : ∃ z, z = h148.size := ⟨_, rfl⟩
        rw [← g151] at A151 D151 st151
        refine FinH.by (fun tt_ kk_ => st151 tt_ kk_) ?_
        have ch152 : CHr Z consts_1 s.vm h0 s.vm h151 := ch149.trans (CHr.ext E151 ch149.1)
        refine FinH.by (fun tt_ kk_ => XS.dup X151.here hx rfl (hb hby d_method_2_63) rfl rfl (XS.aload X151.here hx rfl (hb hby d_method_2_64) rfl rfl kk_)) ?_
        have z154 : n0 ≤ h148.size := Nat.le_trans Z0 (Nat.le_trans (Nat.le_trans E142.1 (Keep.of_wr W144).1) (Keep.of_wr W148).1)
        have g153 : n0 ≤ a151 := Nat.le_trans z154 (Nat.le_of_eq g151.symm)
        have A155 : Arv Z h151 a142 k142 .char (2 : Int32) [(.int (nar .char c0)), (.int (nar .char c1))] (.int (0 : Int32)) := (V148.ext E151)
        have O156 : Old Z n0 h151 := ((((OL.ext E142).wr W144 g145).wr W148 g145).ext E151)
        have z157 : n0 ≤ h151.size := Nat.le_trans Z0 (Nat.le_trans (Nat.le_trans (Nat.le_trans E142.1 (Keep.of_wr W144).1) (Keep.of_wr W148).1) E151.1)
        obtain ⟨v158, _, ⟨T158, L158, k158, n158⟩, -, X158, ⟨Lc158, hQ158, l158, y158, z158⟩, st158⟩ := X151.specialBack hx (y := y_17) rfl hown (mvT hZ (w_ hw 10 rfl)) (mvT hZ (w_ hw 11 rfl)) (mvT hZ (w_ hw 12 rfl)) (by decide) (backOf (W := 1) (rm_n1_2 l Z a0 hw [] a151 a142 k142 (nar .char c0) (nar .char c1) G1 h151 n0 z157 A151 (D151 (Or.inr (w_ hw 22 rfl)) (ty := (.array .byte)) (by decide) : Fld Z h151 a151 "java/lang/String" "value" "[B" .null) (D151 (Or.inr (w_ hw 23 rfl)) (ty := .byte) (by decide) : Fld Z h151 a151 "java/lang/String" "coder" "B" (.int (0 : Int32))) g153 A155 (own_nb _) (own_nb _) S1 P1 S6 S7 S8 O156) hZ (w_ hw 12 rfl) (w_ hw 8 rfl) (by decide) (by decide)) (g := (mkF m 66 #[.val (.int mm), .val (.int c0), .val (.int c1), .val (.int c2), .val (.ref a142)] [(.ref a142), (.ref a151), (.ref a151)])) rfl (by rw [hml]; rfl) (Steps.refl _) (a := a151) (argsL := [(.ref a142)]) (rest := [(.ref a151)]) (lenOf pd_275 rfl) rfl (by show 2 * 0 + _ ≤ _; exact Nat.le_of_eq rfl) (hb hby d_method_2_66) (fun _ _ => ⟨rfl, e151, (by decide : 2 + 2 ≤ _), (by decide : 6 + 6 ≤ _)⟩)
        dsimp only [Pt.U, Pt.locs, Pt.cells, Pt.slots] at X158 l158 y158 z158 st158 hQ158
        subst l158 y158 z158
        obtain ⟨t159, k160, cd161, N162, vs163, rfl, Nq158, p158_0, p158_1, p158_2, p158_3, p158_4, p158_5, p158_6⟩ := hQ158
        have N158_ := Fr.app N148_ Nq158
        refine FinH.byS st158 ?_
        have sf165 : Safe Z consts_1 s.vm h151 a151 := (Safe.ext E151 ch149.1 (Safe.new (Nat.le_of_eq g151.symm)))
        have ch164 : CHr Z consts_1 s.vm h0 s.vm T158.heap := ch152.trans (CHr.keep p158_0 (allS sf165 all0) ch152.1)
        have kp166 : Keep h0 h142 [] := (Keep.refl h0 []).ext E142
        have kp167 : Keep h0 h144 [] := kp166.wr W144 (Or.inr (Nat.le_trans (Nat.le_refl _) (Nat.le_of_eq g142.symm)))
        have kp168 : Keep h0 h148 [] := kp167.wr W148 (Or.inr (Nat.le_trans (Nat.le_refl _) (Nat.le_of_eq g142.symm)))
        have kp169 : Keep h0 h151 [] := kp168.ext E151
        have kp170 : Keep h0 T158.heap [] := kp169.trans p158_0 (allS (Or.inr (Nat.le_trans (Nat.le_trans (Nat.le_trans E142.1 (Keep.of_wr W144).1) (Keep.of_wr W148).1) (Nat.le_of_eq g151.symm))) all0)
        show FinH _ _ _ _ _ _ _ _ _ (T158.setTop (mkF m 69 #[.val (.int mm), .val (.int c0), .val (.int c1), .val (.int c2), .val (.ref a142)] [(.ref a151)]))
        exact FinH.ret (v := some (.ref a151)) X158 hS0 ((Nat.le_trans hk0 (Nat.le_trans (Nat.le_trans (Nat.le_trans (Nat.le_trans E142.1 (Keep.of_wr W144).1) (Keep.of_wr W148).1) E151.1) p158_0.1))) (fun h => by rw [Bd.returns] at h; cases h) Bd.notSynchronized (⟨a151, t159, k160, N162, vs163, cd161, rfl, N158_, kp170, p158_2, p158_3, p158_4, p158_5, (by unfold own_pre; rw [if_neg hm0, if_neg hm1, if_pos hm2]; exact p158_6)⟩) (by rw [hh]; exact ch164.trans (CHv.at X158 hZ own_EW ch164.1)) (by decide) (by decide) (fun fs hr => retA X158 hx Bd.returns rfl rfl (hb hby d_method_2_69) hr)
      · refine FinH.by (fun tt_ kk_ => XS.icmpYes X0.here hx rfl (pc0 := 42) (pc' := 70) rfl (hb hby d_method_2_42) rfl (feq hm2).2 (by decide) (by decide) kk_) ?_
        refine FinH.by (fun tt_ kk_ => XS.iconst X0.here hx rfl (hb hby d_method_2_70) kk_) ?_
        obtain ⟨T171, h171, k171, X171, e171, E171, A171, st171⟩ := newP X0 hx hZ (w_ hw 9 rfl) e0 (g := (mkF m 71 #[.val (.int mm), .val (.int c0), .val (.int c1), .val (.int c2), .unset] [(.int 3)])) rfl (hb hby d_method_2_71) rfl (by decide) (cap := 3) (by decide) (by decide) (by decide) (by decide)
        obtain ⟨a171, g171⟩ : ∃ z, z = h0.size := ⟨_, rfl⟩
        rw [← g171] at A171 st171
        refine FinH.by (fun tt_ kk_ => st171 tt_ kk_) ?_
        have ch172 : CHr Z consts_1 s.vm h0 s.vm h171 := ch0.trans (CHr.ext E171 ch0.1)
        have V171 : Arv Z h171 a171 k171 .char (3 : Int32) [(.int (0 : Int32)), (.int (0 : Int32)), (.int (0 : Int32))] (.int (0 : Int32)) := (Arv.new A171 (by decide)).pad (pad_rep [] (.int (0 : Int32)) 3)
        refine FinH.by (fun tt_ kk_ => XS.astore X171.here hx rfl (hb hby d_method_2_73) rfl rfl (l' := #[.val (.int mm), .val (.int c0), .val (.int c1), .val (.int c2), .val (.ref a171)]) rfl (XS.aload X171.here hx rfl (hb hby d_method_2_75) rfl rfl (XS.iconst X171.here hx rfl (hb hby d_method_2_77) (XS.iloadN X171.here hx rfl (hb hby d_method_2_78) rfl kk_)))) ?_
        obtain ⟨cl173, Ar173, q173, S173, N173, H173, G173⟩ := id V171
        obtain ⟨T173, h173, X173, e173, W173, st173⟩ := stC X171 hx hZ e171 Ar173 (j := (0 : Int32)) (inb_of S173 ⟨by decide, by decide⟩) (g := (mkF m 79 #[.val (.int mm), .val (.int c0), .val (.int c1), .val (.int c2), .val (.ref a171)] [(.int c0), (.int 0), (.ref a171)])) rfl rfl (hb hby d_method_2_79)
        have V173 : Arv Z h173 a171 k171 .char (3 : Int32) [(.int (nar .char c0)), (.int (0 : Int32)), (.int (0 : Int32))] (.int (0 : Int32)) := Arv.set Ar173 q173 S173 N173 H173 G173 (fits_nar_char _) W173 0 rfl (Nat.le_of_ble_eq_true rfl)
        have g174 : n0 ≤ a171 := Nat.le_trans Z0 (Nat.le_of_eq g171.symm)
        refine FinH.by (fun tt_ kk_ => st173 tt_ kk_) ?_
        have N173_ := Fr.snoc X173 N0 g174
        have sf176 : Safe Z consts_1 s.vm h171 a171 := (Safe.ext E171 ch0.1 (Safe.new (Nat.le_of_eq g171.symm)))
        have ch175 : CHr Z consts_1 s.vm h0 s.vm h173 := ch172.trans (CHr.wr W173 sf176 ch172.1)
        refine FinH.by (fun tt_ kk_ => XS.aload X173.here hx rfl (hb hby d_method_2_80) rfl rfl (XS.iconst X173.here hx rfl (hb hby d_method_2_82) (XS.iloadN X173.here hx rfl (hb hby d_method_2_83) rfl kk_))) ?_
        obtain ⟨cl177, Ar177, q177, S177, N177, H177, G177⟩ := id V173
        obtain ⟨T177, h177, X177, e177, W177, st177⟩ := stC X173 hx hZ e173 Ar177 (j := (1 : Int32)) (inb_of S177 ⟨by decide, by decide⟩) (g := (mkF m 84 #[.val (.int mm), .val (.int c0), .val (.int c1), .val (.int c2), .val (.ref a171)] [(.int c1), (.int 1), (.ref a171)])) rfl rfl (hb hby d_method_2_84)
        have V177 : Arv Z h177 a171 k171 .char (3 : Int32) [(.int (nar .char c0)), (.int (nar .char c1)), (.int (0 : Int32))] (.int (0 : Int32)) := Arv.set Ar177 q177 S177 N177 H177 G177 (fits_nar_char _) W177 1 rfl (Nat.le_of_ble_eq_true rfl)
        refine FinH.by (fun tt_ kk_ => st177 tt_ kk_) ?_
        have N177_ := Fr.snoc X177 N173_ g174
        have sf179 : Safe Z consts_1 s.vm h173 a171 := (Safe.wr W173 sf176 ch172.1 sf176)
        have ch178 : CHr Z consts_1 s.vm h0 s.vm h177 := ch175.trans (CHr.wr W177 sf179 ch175.1)
        refine FinH.by (fun tt_ kk_ => XS.aload X177.here hx rfl (hb hby d_method_2_85) rfl rfl (XS.iconst X177.here hx rfl (hb hby d_method_2_87) (XS.iloadN X177.here hx rfl (hb hby d_method_2_88) rfl kk_))) ?_
        obtain ⟨cl180, Ar180, q180, S180, N180, H180, G180⟩ := id V177
        obtain ⟨T180, h180, X180, e180, W180, st180⟩ := stC X177 hx hZ e177 Ar180 (j := (2 : Int32)) (inb_of S180 ⟨by decide, by decide⟩) (g := (mkF m 89 #[.val (.int mm), .val (.int c0), .val (.int c1), .val (.int c2), .val (.ref a171)] [(.int c2), (.int 2), (.ref a171)])) rfl rfl (hb hby d_method_2_89)
        have V180 : Arv Z h180 a171 k171 .char (3 : Int32) [(.int (nar .char c0)), (.int (nar .char c1)), (.int (nar .char c2))] (.int (0 : Int32)) := Arv.set Ar180 q180 S180 N180 H180 G180 (fits_nar_char _) W180 2 rfl (Nat.le_of_ble_eq_true rfl)
        refine FinH.by (fun tt_ kk_ => st180 tt_ kk_) ?_
        have N180_ := Fr.snoc X180 N177_ g174
        have sf182 : Safe Z consts_1 s.vm h177 a171 := (Safe.wr W177 sf179 ch175.1 sf179)
        have ch181 : CHr Z consts_1 s.vm h0 s.vm h180 := ch178.trans (CHr.wr W180 sf182 ch178.1)
        obtain ⟨T183, h183, X183, e183, E183, A183, D183, -, st183⟩ := newO X180 hx hZ hown (w_ hw 6 rfl) (w_ hw 7 rfl) (w_ hw 8 rfl) e180 (g := (mkF m 90 #[.val (.int mm), .val (.int c0), .val (.int c1), .val (.int c2), .val (.ref a171)] [])) rfl (hb hby d_method_2_90) (by decide) (by decide)
        obtain ⟨a183, g183⟩ : ∃ z, z = h180.size := ⟨_, rfl⟩
        rw [← g183] at A183 D183 st183
        refine FinH.by (fun tt_ kk_ => st183 tt_ kk_) ?_
        have ch184 : CHr Z consts_1 s.vm h0 s.vm h183 := ch181.trans (CHr.ext E183 ch181.1)
        refine FinH.by (fun tt_ kk_ => XS.dup X183.here hx rfl (hb hby d_method_2_93) rfl rfl (XS.aload X183.here hx rfl (hb hby d_method_2_94) rfl rfl kk_)) ?_
        have z186 : n0 ≤ h180.size := Nat.le_trans Z0 (Nat.le_trans (Nat.le_trans (Nat.le_trans E171.1 (Keep.of_wr W173).1) (Keep.of_wr W177).1) (Keep.of_wr W180).1)
        have g185 : n0 ≤ a183 := Nat.le_trans z186 (Nat.le_of_eq g183.symm)
        have A187 : Arv Z h183 a171 k171 .char (3 : Int32) [(.int (nar .char c0)), (.int (nar .char c1)), (.int (nar .char c2))] (.int (0 : Int32)) := (V180.ext E183)
        have O188 : Old Z n0 h183 := (((((OL.ext E171).wr W173 g174).wr W177 g174).wr W180 g174).ext E183)
        have z189 : n0 ≤ h183.size := Nat.le_trans Z0 (Nat.le_trans (Nat.le_trans (Nat.le_trans (Nat.le_trans E171.1 (Keep.of_wr W173).1) (Keep.of_wr W177).1) (Keep.of_wr W180).1) E183.1)
        obtain ⟨v190, _, ⟨T190, L190, k190, n190⟩, -, X190, ⟨Lc190, hQ190, l190, y190, z190⟩, st190⟩ := X183.specialBack hx (y := y_17) rfl hown (mvT hZ (w_ hw 10 rfl)) (mvT hZ (w_ hw 11 rfl)) (mvT hZ (w_ hw 12 rfl)) (by decide) (backOf (W := 1) (rm_n1_3 l Z a0 hw [] a183 a171 k171 (nar .char c0) (nar .char c1) (nar .char c2) G1 h183 n0 z189 A183 (D183 (Or.inr (w_ hw 22 rfl)) (ty := (.array .byte)) (by decide) : Fld Z h183 a183 "java/lang/String" "value" "[B" .null) (D183 (Or.inr (w_ hw 23 rfl)) (ty := .byte) (by decide) : Fld Z h183 a183 "java/lang/String" "coder" "B" (.int (0 : Int32))) g185 A187 (own_nb _) (own_nb _) (own_nb _) S1 P1 S6 S7 S8 O188) hZ (w_ hw 12 rfl) (w_ hw 8 rfl) (by decide) (by decide)) (g := (mkF m 96 #[.val (.int mm), .val (.int c0), .val (.int c1), .val (.int c2), .val (.ref a171)] [(.ref a171), (.ref a183), (.ref a183)])) rfl (by rw [hml]; rfl) (Steps.refl _) (a := a183) (argsL := [(.ref a171)]) (rest := [(.ref a183)]) (lenOf pd_275 rfl) rfl (by show 2 * 0 + _ ≤ _; exact Nat.le_of_eq rfl) (hb hby d_method_2_96) (fun _ _ => ⟨rfl, e183, (by decide : 2 + 2 ≤ _), (by decide : 7 + 9 ≤ _)⟩)
        dsimp only [Pt.U, Pt.locs, Pt.cells, Pt.slots] at X190 l190 y190 z190 st190 hQ190
        subst l190 y190 z190
        obtain ⟨t191, k192, cd193, N194, vs195, rfl, Nq190, p190_0, p190_1, p190_2, p190_3, p190_4, p190_5, p190_6⟩ := hQ190
        have N190_ := Fr.app N180_ Nq190
        refine FinH.byS st190 ?_
        have sf197 : Safe Z consts_1 s.vm h183 a183 := (Safe.ext E183 ch181.1 (Safe.new (Nat.le_of_eq g183.symm)))
        have ch196 : CHr Z consts_1 s.vm h0 s.vm T190.heap := ch184.trans (CHr.keep p190_0 (allS sf197 all0) ch184.1)
        have kp198 : Keep h0 h171 [] := (Keep.refl h0 []).ext E171
        have kp199 : Keep h0 h173 [] := kp198.wr W173 (Or.inr (Nat.le_trans (Nat.le_refl _) (Nat.le_of_eq g171.symm)))
        have kp200 : Keep h0 h177 [] := kp199.wr W177 (Or.inr (Nat.le_trans (Nat.le_refl _) (Nat.le_of_eq g171.symm)))
        have kp201 : Keep h0 h180 [] := kp200.wr W180 (Or.inr (Nat.le_trans (Nat.le_refl _) (Nat.le_of_eq g171.symm)))
        have kp202 : Keep h0 h183 [] := kp201.ext E183
        have kp203 : Keep h0 T190.heap [] := kp202.trans p190_0 (allS (Or.inr (Nat.le_trans (Nat.le_trans (Nat.le_trans (Nat.le_trans E171.1 (Keep.of_wr W173).1) (Keep.of_wr W177).1) (Keep.of_wr W180).1) (Nat.le_of_eq g183.symm))) all0)
        show FinH _ _ _ _ _ _ _ _ _ (T190.setTop (mkF m 99 #[.val (.int mm), .val (.int c0), .val (.int c1), .val (.int c2), .val (.ref a171)] [(.ref a183)]))
        exact FinH.ret (v := some (.ref a183)) X190 hS0 ((Nat.le_trans hk0 (Nat.le_trans (Nat.le_trans (Nat.le_trans (Nat.le_trans (Nat.le_trans E171.1 (Keep.of_wr W173).1) (Keep.of_wr W177).1) (Keep.of_wr W180).1) E183.1) p190_0.1))) (fun h => by rw [Bd.returns] at h; cases h) Bd.notSynchronized (⟨a183, t191, k192, N194, vs195, cd193, rfl, N190_, kp203, p190_2, p190_3, p190_4, p190_5, (by unfold own_pre; rw [if_neg hm0, if_neg hm1, if_neg hm2]; exact p190_6)⟩) (by rw [hh]; exact ch196.trans (CHv.at X190 hZ own_EW ch196.1)) (by decide) (by decide) (fun fs hr => retA X190 hx Bd.returns rfl rfl (hb hby d_method_2_99) hr)
theorem d_prog_114_method_1_0 : decode prog_114_method_1_code 0 = .ok (.aload_n 0, 1) := by decide +kernel
theorem d_prog_114_method_1_1 : decode prog_114_method_1_code 1 = .ok (.invokespecial 1, 3) := by decide +kernel
theorem d_prog_114_method_1_4 : decode prog_114_method_1_code 4 = .ok (.aload_n 0, 1) := by decide +kernel
theorem d_prog_114_method_1_5 : decode prog_114_method_1_code 5 = .ok (.iload_n 1, 1) := by decide +kernel
theorem d_prog_114_method_1_6 : decode prog_114_method_1_code 6 = .ok (.newarray .char, 2) := by decide +kernel
theorem d_prog_114_method_1_8 : decode prog_114_method_1_code 8 = .ok (.putfield 7, 3) := by decide +kernel
theorem d_prog_114_method_1_11 : decode prog_114_method_1_code 11 = .ok (.return_, 1) := by decide +kernel
theorem pn_com_example_colonnade_colonnade_WordBuffer : plainName "com/example/colonnade/colonnade/WordBuffer" = true := by first | (simp [plainName, overriddenIn]; done) | decide +kernel
def Q_wbi0 (Z : State) (a : Addr) (h0 : Heap) (n0 : Nat) (vv_ : Option Value) (hh_ : Heap) (LL_ : List Loc) : Prop := ∃ (t : Addr), ∃ (k : ClassId), vv_ = none ∧ Fr n0 LL_ ∧ Keep h0 hh_ [a] ∧ h0.size ≤ t ∧ Exa Z hh_ a "com/example/colonnade/colonnade/WordBuffer" ∧ Fld Z hh_ a "com/example/colonnade/colonnade/WordBuffer" "chars" "[C" (.ref t) ∧ Fld Z hh_ a "com/example/colonnade/colonnade/WordBuffer" "length" "I" (.int (0 : Int32)) ∧ Arv Z hh_ t k .char (0 : Int32) [] (.int (0 : Int32))
set_option maxRecDepth 65536 in
set_option maxHeartbeats 40000000 in
theorem rm_wbi0 (l : Launch) (Z : State) (a0 : Array Value) (hw : ∀ d ∈ tables_1, d.before a0 Z = true) (ws : List Jvm.Cond) (a : Addr) (h0 : Heap) (n0 : Nat) (Z0 : n0 ≤ h0.size) (E0 : Exa Z h0 a "com/example/colonnade/colonnade/WordBuffer") (Fc : Fld Z h0 a "com/example/colonnade/colonnade/WordBuffer" "chars" "[C" .null) (Fl : Fld Z h0 a "com/example/colonnade/colonnade/WordBuffer" "length" "I" (.int (0 : Int32))) (ga : n0 ≤ a) :
    MetFree l (⟨"com/example/colonnade/colonnade/WordBuffer", "<init>", "(I)V"⟩ : MethodName) (head1 (Jvm.Cond.code (⟨"com/example/colonnade/colonnade/WordBuffer", "<init>", "(I)V"⟩ : MethodName) prog_114_method_1_code 2 none :: ws) ({ frames := 1, cells := 1, slots := 0, locals := 12 } : Room)) (fun aa_ U => aa_ = #[(.ref a), (.int (0 : Int32))] ∧ Z.Warmed39 U.vm ∧ U.heap = h0) (fun _ _ _ _ _ => True) (fun _ U o U' => ∃ vv_ LL_, o = .returned vv_ ∧ Q_wbi0 Z a h0 n0 vv_ U'.heap LL_ ∧ FrameEnd U o U' LL_ 1 0) := by
  refine MetFree.of_bodySF (plainFor_of_name pn_com_example_colonnade_colonnade_WordBuffer) hisR ?_
  intro p e s m args below meth c s₁ Bd hml0 hP hK
  obtain ⟨rfl, hZ, hh⟩ := hP
  have hx := Bd.exec
  have hby := Bd.bytes
  have hml : c.maxLocals = 2 := hml0
  have hown : s.vm.findClass "com/example/colonnade/colonnade/WordBuffer" = some m.cls := findClass_of_methodNamed Bd.named
  have hnm := (name_of_methodNamed Bd.named Bd.method).1
  have X0 : Stand p l e ({ frames := 1, cells := 1, slots := 0, locals := 12 } : Room) s m #[(.ref a), (.int (0 : Int32))] below meth c s₁ [] 0 0 := Stand.of_body Bd
  have e0 : s₁.heap = h0 := by rw [← hh, Bd.state]; rfl
  have N0 := Fr.nil n0
  have ef : entryFrame m #[(.ref a), (.int (0 : Int32))] 2 = mkF m 0 #[.val (.ref a), .val (.int (0 : Int32))] [] := by first | (simp [entryFrame, mkF, argsToLocals, Value.category]; done) | rfl
  refine Fin.start (Q := Q_wbi0 Z a h0 n0) ef ?_
  refine Fin.by (fun tt_ kk_ => XS.aloadN X0.here hx rfl (hb hby d_prog_114_method_1_0) rfl rfl kk_) ?_
  obtain ⟨T101, X101, e101, st101⟩ := initO X0 hx hZ hown (w_ hw 34 rfl) (w_ hw 18 rfl) (w_ hw 19 rfl) e0 (g := (mkF m 1 #[.val (.ref a), .val (.int 0)] [(.ref a)])) rfl (by rw [hml]; rfl) rfl (hb hby d_prog_114_method_1_1) (by decide) (W := 0) (by show 2 * 0 + _ ≤ _; exact Nat.le_of_eq rfl) (by decide)
  refine Fin.by (fun tt_ kk_ => st101 tt_ kk_) ?_
  refine Fin.by (fun tt_ kk_ => XS.aloadN X101.here hx rfl (hb hby d_prog_114_method_1_4) rfl rfl (XS.iloadN X101.here hx rfl (hb hby d_prog_114_method_1_5) rfl kk_)) ?_
  obtain ⟨T102, h102, k102, X102, e102, E102, A102, st102⟩ := newP X101 hx hZ (w_ hw 9 rfl) e101 (g := (mkF m 6 #[.val (.ref a), .val (.int 0)] [(.int 0), (.ref a)])) rfl (hb hby d_prog_114_method_1_6) rfl (by decide) (cap := 0) (by decide) (by decide) (by decide) (by decide)
  obtain ⟨a102, g102⟩ : ∃ z, z = h0.size := ⟨_, rfl⟩
  rw [← g102] at A102 st102
  refine Fin.by (fun tt_ kk_ => st102 tt_ kk_) ?_
  have V102 : Arv Z h102 a102 k102 .char (0 : Int32) [] (.int (0 : Int32)) := Arv.new A102 (by decide)
  have F103 : Fld Z h102 a "com/example/colonnade/colonnade/WordBuffer" "chars" "[C" .null := (Fc.ext E102)
  have E104 : Exa Z h102 a "com/example/colonnade/colonnade/WordBuffer" := (E0.ext E102)
  obtain ⟨T105, h105, X105, e105, W105, st105⟩ := putF X102 hx hZ hown (host := "") (Or.inl (w_ hw 35 rfl)) Via.refl e102 F103 E104 (Or.inr ⟨(w_ hw 36 rfl), rfl, hnm⟩) (w_ hw 29 rfl) (ty := (.array .char)) (by decide) rfl rfl (g := (mkF m 8 #[.val (.ref a), .val (.int 0)] [(.ref a102), (.ref a)])) rfl rfl (hb hby d_prog_114_method_1_8)
  refine Fin.by (fun tt_ kk_ => st105 tt_ kk_) ?_
  have N105_ := Fr.snoc X105 N0 ga
  have kp106 : Keep h0 h102 [a] := (Keep.refl h0 [a]).ext E102
  have kp107 : Keep h0 h105 [a] := kp106.wr W105 (Or.inl (List.mem_of_getElem? (i := 0) rfl))
  have E108 : Exa Z h105 a "com/example/colonnade/colonnade/WordBuffer" := (E104.wr W105)
  have F109 : Fld Z h105 a "com/example/colonnade/colonnade/WordBuffer" "length" "I" (.int (0 : Int32)) := ((Fl.ext E102).other W105 (Or.inr (slot_ne (Or.inl (w_ hw 43 rfl)) (Or.inr (w_ hw 36 rfl)) (by decide) (t := .int) (t' := (.array .char)) (by decide) (by decide))))
  have ne110 : a ≠ a102 := Nat.ne_of_lt (Nat.lt_of_lt_of_le E0.lt (Nat.le_of_eq g102.symm))
  have A111 : Arv Z h105 a102 k102 .char (0 : Int32) [] (.int (0 : Int32)) := (V102.other W105 (Ne.symm ne110))
  show Fin _ _ _ _ _ _ _ (T105.setTop (mkF m 11 #[.val (.ref a), .val (.int 0)] []))
  exact Fin.ret (v := none) X105 (fun _ => rfl) Bd.notSynchronized (by rw [e105]; exact ⟨a102, k102, rfl, N105_, kp107, (Nat.le_trans (Nat.le_refl _) (Nat.le_of_eq g102.symm)), E108, (F103.same W105), F109, A111⟩) (by decide) (by decide) (fun fs hr => X105.returnOut hx Bd.returns (hb hby d_prog_114_method_1_11) hr)
def Q_wbi1 (Z : State) (a : Addr) (h0 : Heap) (n0 : Nat) (vv_ : Option Value) (hh_ : Heap) (LL_ : List Loc) : Prop := ∃ (t : Addr), ∃ (k : ClassId), vv_ = none ∧ Fr n0 LL_ ∧ Keep h0 hh_ [a] ∧ h0.size ≤ t ∧ Exa Z hh_ a "com/example/colonnade/colonnade/WordBuffer" ∧ Fld Z hh_ a "com/example/colonnade/colonnade/WordBuffer" "chars" "[C" (.ref t) ∧ Fld Z hh_ a "com/example/colonnade/colonnade/WordBuffer" "length" "I" (.int (0 : Int32)) ∧ Arv Z hh_ t k .char (1 : Int32) [(.int (0 : Int32))] (.int (0 : Int32))
set_option maxRecDepth 65536 in
set_option maxHeartbeats 40000000 in
theorem rm_wbi1 (l : Launch) (Z : State) (a0 : Array Value) (hw : ∀ d ∈ tables_1, d.before a0 Z = true) (ws : List Jvm.Cond) (a : Addr) (h0 : Heap) (n0 : Nat) (Z0 : n0 ≤ h0.size) (E0 : Exa Z h0 a "com/example/colonnade/colonnade/WordBuffer") (Fc : Fld Z h0 a "com/example/colonnade/colonnade/WordBuffer" "chars" "[C" .null) (Fl : Fld Z h0 a "com/example/colonnade/colonnade/WordBuffer" "length" "I" (.int (0 : Int32))) (ga : n0 ≤ a) :
    MetFree l (⟨"com/example/colonnade/colonnade/WordBuffer", "<init>", "(I)V"⟩ : MethodName) (head1 (Jvm.Cond.code (⟨"com/example/colonnade/colonnade/WordBuffer", "<init>", "(I)V"⟩ : MethodName) prog_114_method_1_code 2 none :: ws) ({ frames := 1, cells := 1, slots := 1, locals := 12 } : Room)) (fun aa_ U => aa_ = #[(.ref a), (.int (1 : Int32))] ∧ Z.Warmed39 U.vm ∧ U.heap = h0) (fun _ _ _ _ _ => True) (fun _ U o U' => ∃ vv_ LL_, o = .returned vv_ ∧ Q_wbi1 Z a h0 n0 vv_ U'.heap LL_ ∧ FrameEnd U o U' LL_ 1 1) := by
  refine MetFree.of_bodySF (plainFor_of_name pn_com_example_colonnade_colonnade_WordBuffer) hisR ?_
  intro p e s m args below meth c s₁ Bd hml0 hP hK
  obtain ⟨rfl, hZ, hh⟩ := hP
  have hx := Bd.exec
  have hby := Bd.bytes
  have hml : c.maxLocals = 2 := hml0
  have hown : s.vm.findClass "com/example/colonnade/colonnade/WordBuffer" = some m.cls := findClass_of_methodNamed Bd.named
  have hnm := (name_of_methodNamed Bd.named Bd.method).1
  have X0 : Stand p l e ({ frames := 1, cells := 1, slots := 1, locals := 12 } : Room) s m #[(.ref a), (.int (1 : Int32))] below meth c s₁ [] 0 0 := Stand.of_body Bd
  have e0 : s₁.heap = h0 := by rw [← hh, Bd.state]; rfl
  have N0 := Fr.nil n0
  have ef : entryFrame m #[(.ref a), (.int (1 : Int32))] 2 = mkF m 0 #[.val (.ref a), .val (.int (1 : Int32))] [] := by first | (simp [entryFrame, mkF, argsToLocals, Value.category]; done) | rfl
  refine Fin.start (Q := Q_wbi1 Z a h0 n0) ef ?_
  refine Fin.by (fun tt_ kk_ => XS.aloadN X0.here hx rfl (hb hby d_prog_114_method_1_0) rfl rfl kk_) ?_
  obtain ⟨T101, X101, e101, st101⟩ := initO X0 hx hZ hown (w_ hw 34 rfl) (w_ hw 18 rfl) (w_ hw 19 rfl) e0 (g := (mkF m 1 #[.val (.ref a), .val (.int 1)] [(.ref a)])) rfl (by rw [hml]; rfl) rfl (hb hby d_prog_114_method_1_1) (by decide) (W := 0) (by show 2 * 0 + _ ≤ _; exact Nat.le_of_eq rfl) (by decide)
  refine Fin.by (fun tt_ kk_ => st101 tt_ kk_) ?_
  refine Fin.by (fun tt_ kk_ => XS.aloadN X101.here hx rfl (hb hby d_prog_114_method_1_4) rfl rfl (XS.iloadN X101.here hx rfl (hb hby d_prog_114_method_1_5) rfl kk_)) ?_
  obtain ⟨T102, h102, k102, X102, e102, E102, A102, st102⟩ := newP X101 hx hZ (w_ hw 9 rfl) e101 (g := (mkF m 6 #[.val (.ref a), .val (.int 1)] [(.int 1), (.ref a)])) rfl (hb hby d_prog_114_method_1_6) rfl (by decide) (cap := 1) (by decide) (by decide) (by decide) (by decide)
  obtain ⟨a102, g102⟩ : ∃ z, z = h0.size := ⟨_, rfl⟩
  rw [← g102] at A102 st102
  refine Fin.by (fun tt_ kk_ => st102 tt_ kk_) ?_
  have V102 : Arv Z h102 a102 k102 .char (1 : Int32) [(.int (0 : Int32))] (.int (0 : Int32)) := (Arv.new A102 (by decide)).pad (pad_rep [] (.int (0 : Int32)) 1)
  have F103 : Fld Z h102 a "com/example/colonnade/colonnade/WordBuffer" "chars" "[C" .null := (Fc.ext E102)
  have E104 : Exa Z h102 a "com/example/colonnade/colonnade/WordBuffer" := (E0.ext E102)
  obtain ⟨T105, h105, X105, e105, W105, st105⟩ := putF X102 hx hZ hown (host := "") (Or.inl (w_ hw 35 rfl)) Via.refl e102 F103 E104 (Or.inr ⟨(w_ hw 36 rfl), rfl, hnm⟩) (w_ hw 29 rfl) (ty := (.array .char)) (by decide) rfl rfl (g := (mkF m 8 #[.val (.ref a), .val (.int 1)] [(.ref a102), (.ref a)])) rfl rfl (hb hby d_prog_114_method_1_8)
  refine Fin.by (fun tt_ kk_ => st105 tt_ kk_) ?_
  have N105_ := Fr.snoc X105 N0 ga
  have kp106 : Keep h0 h102 [a] := (Keep.refl h0 [a]).ext E102
  have kp107 : Keep h0 h105 [a] := kp106.wr W105 (Or.inl (List.mem_of_getElem? (i := 0) rfl))
  have E108 : Exa Z h105 a "com/example/colonnade/colonnade/WordBuffer" := (E104.wr W105)
  have F109 : Fld Z h105 a "com/example/colonnade/colonnade/WordBuffer" "length" "I" (.int (0 : Int32)) := ((Fl.ext E102).other W105 (Or.inr (slot_ne (Or.inl (w_ hw 43 rfl)) (Or.inr (w_ hw 36 rfl)) (by decide) (t := .int) (t' := (.array .char)) (by decide) (by decide))))
  have ne110 : a ≠ a102 := Nat.ne_of_lt (Nat.lt_of_lt_of_le E0.lt (Nat.le_of_eq g102.symm))
  have A111 : Arv Z h105 a102 k102 .char (1 : Int32) [(.int (0 : Int32))] (.int (0 : Int32)) := (V102.other W105 (Ne.symm ne110))
  show Fin _ _ _ _ _ _ _ (T105.setTop (mkF m 11 #[.val (.ref a), .val (.int 1)] []))
  exact Fin.ret (v := none) X105 (fun _ => rfl) Bd.notSynchronized (by rw [e105]; exact ⟨a102, k102, rfl, N105_, kp107, (Nat.le_trans (Nat.le_refl _) (Nat.le_of_eq g102.symm)), E108, (F103.same W105), F109, A111⟩) (by decide) (by decide) (fun fs hr => X105.returnOut hx Bd.returns (hb hby d_prog_114_method_1_11) hr)
def Q_wbi2 (Z : State) (a : Addr) (h0 : Heap) (n0 : Nat) (vv_ : Option Value) (hh_ : Heap) (LL_ : List Loc) : Prop := ∃ (t : Addr), ∃ (k : ClassId), vv_ = none ∧ Fr n0 LL_ ∧ Keep h0 hh_ [a] ∧ h0.size ≤ t ∧ Exa Z hh_ a "com/example/colonnade/colonnade/WordBuffer" ∧ Fld Z hh_ a "com/example/colonnade/colonnade/WordBuffer" "chars" "[C" (.ref t) ∧ Fld Z hh_ a "com/example/colonnade/colonnade/WordBuffer" "length" "I" (.int (0 : Int32)) ∧ Arv Z hh_ t k .char (2 : Int32) [(.int (0 : Int32)), (.int (0 : Int32))] (.int (0 : Int32))
set_option maxRecDepth 65536 in
set_option maxHeartbeats 40000000 in
theorem rm_wbi2 (l : Launch) (Z : State) (a0 : Array Value) (hw : ∀ d ∈ tables_1, d.before a0 Z = true) (ws : List Jvm.Cond) (a : Addr) (h0 : Heap) (n0 : Nat) (Z0 : n0 ≤ h0.size) (E0 : Exa Z h0 a "com/example/colonnade/colonnade/WordBuffer") (Fc : Fld Z h0 a "com/example/colonnade/colonnade/WordBuffer" "chars" "[C" .null) (Fl : Fld Z h0 a "com/example/colonnade/colonnade/WordBuffer" "length" "I" (.int (0 : Int32))) (ga : n0 ≤ a) :
    MetFree l (⟨"com/example/colonnade/colonnade/WordBuffer", "<init>", "(I)V"⟩ : MethodName) (head1 (Jvm.Cond.code (⟨"com/example/colonnade/colonnade/WordBuffer", "<init>", "(I)V"⟩ : MethodName) prog_114_method_1_code 2 none :: ws) ({ frames := 1, cells := 1, slots := 2, locals := 12 } : Room)) (fun aa_ U => aa_ = #[(.ref a), (.int (2 : Int32))] ∧ Z.Warmed39 U.vm ∧ U.heap = h0) (fun _ _ _ _ _ => True) (fun _ U o U' => ∃ vv_ LL_, o = .returned vv_ ∧ Q_wbi2 Z a h0 n0 vv_ U'.heap LL_ ∧ FrameEnd U o U' LL_ 1 2) := by
  refine MetFree.of_bodySF (plainFor_of_name pn_com_example_colonnade_colonnade_WordBuffer) hisR ?_
  intro p e s m args below meth c s₁ Bd hml0 hP hK
  obtain ⟨rfl, hZ, hh⟩ := hP
  have hx := Bd.exec
  have hby := Bd.bytes
  have hml : c.maxLocals = 2 := hml0
  have hown : s.vm.findClass "com/example/colonnade/colonnade/WordBuffer" = some m.cls := findClass_of_methodNamed Bd.named
  have hnm := (name_of_methodNamed Bd.named Bd.method).1
  have X0 : Stand p l e ({ frames := 1, cells := 1, slots := 2, locals := 12 } : Room) s m #[(.ref a), (.int (2 : Int32))] below meth c s₁ [] 0 0 := Stand.of_body Bd
  have e0 : s₁.heap = h0 := by rw [← hh, Bd.state]; rfl
  have N0 := Fr.nil n0
  have ef : entryFrame m #[(.ref a), (.int (2 : Int32))] 2 = mkF m 0 #[.val (.ref a), .val (.int (2 : Int32))] [] := by first | (simp [entryFrame, mkF, argsToLocals, Value.category]; done) | rfl
  refine Fin.start (Q := Q_wbi2 Z a h0 n0) ef ?_
  refine Fin.by (fun tt_ kk_ => XS.aloadN X0.here hx rfl (hb hby d_prog_114_method_1_0) rfl rfl kk_) ?_
  obtain ⟨T101, X101, e101, st101⟩ := initO X0 hx hZ hown (w_ hw 34 rfl) (w_ hw 18 rfl) (w_ hw 19 rfl) e0 (g := (mkF m 1 #[.val (.ref a), .val (.int 2)] [(.ref a)])) rfl (by rw [hml]; rfl) rfl (hb hby d_prog_114_method_1_1) (by decide) (W := 0) (by show 2 * 0 + _ ≤ _; exact Nat.le_of_eq rfl) (by decide)
  refine Fin.by (fun tt_ kk_ => st101 tt_ kk_) ?_
  refine Fin.by (fun tt_ kk_ => XS.aloadN X101.here hx rfl (hb hby d_prog_114_method_1_4) rfl rfl (XS.iloadN X101.here hx rfl (hb hby d_prog_114_method_1_5) rfl kk_)) ?_
  obtain ⟨T102, h102, k102, X102, e102, E102, A102, st102⟩ := newP X101 hx hZ (w_ hw 9 rfl) e101 (g := (mkF m 6 #[.val (.ref a), .val (.int 2)] [(.int 2), (.ref a)])) rfl (hb hby d_prog_114_method_1_6) rfl (by decide) (cap := 2) (by decide) (by decide) (by decide) (by decide)
  obtain ⟨a102, g102⟩ : ∃ z, z = h0.size := ⟨_, rfl⟩
  rw [← g102] at A102 st102
  refine Fin.by (fun tt_ kk_ => st102 tt_ kk_) ?_
  have V102 : Arv Z h102 a102 k102 .char (2 : Int32) [(.int (0 : Int32)), (.int (0 : Int32))] (.int (0 : Int32)) := (Arv.new A102 (by decide)).pad (pad_rep [] (.int (0 : Int32)) 2)
  have F103 : Fld Z h102 a "com/example/colonnade/colonnade/WordBuffer" "chars" "[C" .null := (Fc.ext E102)
  have E104 : Exa Z h102 a "com/example/colonnade/colonnade/WordBuffer" := (E0.ext E102)
  obtain ⟨T105, h105, X105, e105, W105, st105⟩ := putF X102 hx hZ hown (host := "") (Or.inl (w_ hw 35 rfl)) Via.refl e102 F103 E104 (Or.inr ⟨(w_ hw 36 rfl), rfl, hnm⟩) (w_ hw 29 rfl) (ty := (.array .char)) (by decide) rfl rfl (g := (mkF m 8 #[.val (.ref a), .val (.int 2)] [(.ref a102), (.ref a)])) rfl rfl (hb hby d_prog_114_method_1_8)
  refine Fin.by (fun tt_ kk_ => st105 tt_ kk_) ?_
  have N105_ := Fr.snoc X105 N0 ga
  have kp106 : Keep h0 h102 [a] := (Keep.refl h0 [a]).ext E102
  have kp107 : Keep h0 h105 [a] := kp106.wr W105 (Or.inl (List.mem_of_getElem? (i := 0) rfl))
  have E108 : Exa Z h105 a "com/example/colonnade/colonnade/WordBuffer" := (E104.wr W105)
  have F109 : Fld Z h105 a "com/example/colonnade/colonnade/WordBuffer" "length" "I" (.int (0 : Int32)) := ((Fl.ext E102).other W105 (Or.inr (slot_ne (Or.inl (w_ hw 43 rfl)) (Or.inr (w_ hw 36 rfl)) (by decide) (t := .int) (t' := (.array .char)) (by decide) (by decide))))
  have ne110 : a ≠ a102 := Nat.ne_of_lt (Nat.lt_of_lt_of_le E0.lt (Nat.le_of_eq g102.symm))
  have A111 : Arv Z h105 a102 k102 .char (2 : Int32) [(.int (0 : Int32)), (.int (0 : Int32))] (.int (0 : Int32)) := (V102.other W105 (Ne.symm ne110))
  show Fin _ _ _ _ _ _ _ (T105.setTop (mkF m 11 #[.val (.ref a), .val (.int 2)] []))
  exact Fin.ret (v := none) X105 (fun _ => rfl) Bd.notSynchronized (by rw [e105]; exact ⟨a102, k102, rfl, N105_, kp107, (Nat.le_trans (Nat.le_refl _) (Nat.le_of_eq g102.symm)), E108, (F103.same W105), F109, A111⟩) (by decide) (by decide) (fun fs hr => X105.returnOut hx Bd.returns (hb hby d_prog_114_method_1_11) hr)
def Q_wbi3 (Z : State) (a : Addr) (h0 : Heap) (n0 : Nat) (vv_ : Option Value) (hh_ : Heap) (LL_ : List Loc) : Prop := ∃ (t : Addr), ∃ (k : ClassId), vv_ = none ∧ Fr n0 LL_ ∧ Keep h0 hh_ [a] ∧ h0.size ≤ t ∧ Exa Z hh_ a "com/example/colonnade/colonnade/WordBuffer" ∧ Fld Z hh_ a "com/example/colonnade/colonnade/WordBuffer" "chars" "[C" (.ref t) ∧ Fld Z hh_ a "com/example/colonnade/colonnade/WordBuffer" "length" "I" (.int (0 : Int32)) ∧ Arv Z hh_ t k .char (3 : Int32) [(.int (0 : Int32)), (.int (0 : Int32)), (.int (0 : Int32))] (.int (0 : Int32))
set_option maxRecDepth 65536 in
set_option maxHeartbeats 40000000 in
theorem rm_wbi3 (l : Launch) (Z : State) (a0 : Array Value) (hw : ∀ d ∈ tables_1, d.before a0 Z = true) (ws : List Jvm.Cond) (a : Addr) (h0 : Heap) (n0 : Nat) (Z0 : n0 ≤ h0.size) (E0 : Exa Z h0 a "com/example/colonnade/colonnade/WordBuffer") (Fc : Fld Z h0 a "com/example/colonnade/colonnade/WordBuffer" "chars" "[C" .null) (Fl : Fld Z h0 a "com/example/colonnade/colonnade/WordBuffer" "length" "I" (.int (0 : Int32))) (ga : n0 ≤ a) :
    MetFree l (⟨"com/example/colonnade/colonnade/WordBuffer", "<init>", "(I)V"⟩ : MethodName) (head1 (Jvm.Cond.code (⟨"com/example/colonnade/colonnade/WordBuffer", "<init>", "(I)V"⟩ : MethodName) prog_114_method_1_code 2 none :: ws) ({ frames := 1, cells := 1, slots := 3, locals := 12 } : Room)) (fun aa_ U => aa_ = #[(.ref a), (.int (3 : Int32))] ∧ Z.Warmed39 U.vm ∧ U.heap = h0) (fun _ _ _ _ _ => True) (fun _ U o U' => ∃ vv_ LL_, o = .returned vv_ ∧ Q_wbi3 Z a h0 n0 vv_ U'.heap LL_ ∧ FrameEnd U o U' LL_ 1 3) := by
  refine MetFree.of_bodySF (plainFor_of_name pn_com_example_colonnade_colonnade_WordBuffer) hisR ?_
  intro p e s m args below meth c s₁ Bd hml0 hP hK
  obtain ⟨rfl, hZ, hh⟩ := hP
  have hx := Bd.exec
  have hby := Bd.bytes
  have hml : c.maxLocals = 2 := hml0
  have hown : s.vm.findClass "com/example/colonnade/colonnade/WordBuffer" = some m.cls := findClass_of_methodNamed Bd.named
  have hnm := (name_of_methodNamed Bd.named Bd.method).1
  have X0 : Stand p l e ({ frames := 1, cells := 1, slots := 3, locals := 12 } : Room) s m #[(.ref a), (.int (3 : Int32))] below meth c s₁ [] 0 0 := Stand.of_body Bd
  have e0 : s₁.heap = h0 := by rw [← hh, Bd.state]; rfl
  have N0 := Fr.nil n0
  have ef : entryFrame m #[(.ref a), (.int (3 : Int32))] 2 = mkF m 0 #[.val (.ref a), .val (.int (3 : Int32))] [] := by first | (simp [entryFrame, mkF, argsToLocals, Value.category]; done) | rfl
  refine Fin.start (Q := Q_wbi3 Z a h0 n0) ef ?_
  refine Fin.by (fun tt_ kk_ => XS.aloadN X0.here hx rfl (hb hby d_prog_114_method_1_0) rfl rfl kk_) ?_
  obtain ⟨T101, X101, e101, st101⟩ := initO X0 hx hZ hown (w_ hw 34 rfl) (w_ hw 18 rfl) (w_ hw 19 rfl) e0 (g := (mkF m 1 #[.val (.ref a), .val (.int 3)] [(.ref a)])) rfl (by rw [hml]; rfl) rfl (hb hby d_prog_114_method_1_1) (by decide) (W := 0) (by show 2 * 0 + _ ≤ _; exact Nat.le_of_eq rfl) (by decide)
  refine Fin.by (fun tt_ kk_ => st101 tt_ kk_) ?_
  refine Fin.by (fun tt_ kk_ => XS.aloadN X101.here hx rfl (hb hby d_prog_114_method_1_4) rfl rfl (XS.iloadN X101.here hx rfl (hb hby d_prog_114_method_1_5) rfl kk_)) ?_
  obtain ⟨T102, h102, k102, X102, e102, E102, A102, st102⟩ := newP X101 hx hZ (w_ hw 9 rfl) e101 (g := (mkF m 6 #[.val (.ref a), .val (.int 3)] [(.int 3), (.ref a)])) rfl (hb hby d_prog_114_method_1_6) rfl (by decide) (cap := 3) (by decide) (by decide) (by decide) (by decide)
  obtain ⟨a102, g102⟩ : ∃ z, z = h0.size := ⟨_, rfl⟩
  rw [← g102] at A102 st102
  refine Fin.by (fun tt_ kk_ => st102 tt_ kk_) ?_
  have V102 : Arv Z h102 a102 k102 .char (3 : Int32) [(.int (0 : Int32)), (.int (0 : Int32)), (.int (0 : Int32))] (.int (0 : Int32)) := (Arv.new A102 (by decide)).pad (pad_rep [] (.int (0 : Int32)) 3)
  have F103 : Fld Z h102 a "com/example/colonnade/colonnade/WordBuffer" "chars" "[C" .null := (Fc.ext E102)
  have E104 : Exa Z h102 a "com/example/colonnade/colonnade/WordBuffer" := (E0.ext E102)
  obtain ⟨T105, h105, X105, e105, W105, st105⟩ := putF X102 hx hZ hown (host := "") (Or.inl (w_ hw 35 rfl)) Via.refl e102 F103 E104 (Or.inr ⟨(w_ hw 36 rfl), rfl, hnm⟩) (w_ hw 29 rfl) (ty := (.array .char)) (by decide) rfl rfl (g := (mkF m 8 #[.val (.ref a), .val (.int 3)] [(.ref a102), (.ref a)])) rfl rfl (hb hby d_prog_114_method_1_8)
  refine Fin.by (fun tt_ kk_ => st105 tt_ kk_) ?_
  have N105_ := Fr.snoc X105 N0 ga
  have kp106 : Keep h0 h102 [a] := (Keep.refl h0 [a]).ext E102
  have kp107 : Keep h0 h105 [a] := kp106.wr W105 (Or.inl (List.mem_of_getElem? (i := 0) rfl))
  have E108 : Exa Z h105 a "com/example/colonnade/colonnade/WordBuffer" := (E104.wr W105)
  have F109 : Fld Z h105 a "com/example/colonnade/colonnade/WordBuffer" "length" "I" (.int (0 : Int32)) := ((Fl.ext E102).other W105 (Or.inr (slot_ne (Or.inl (w_ hw 43 rfl)) (Or.inr (w_ hw 36 rfl)) (by decide) (t := .int) (t' := (.array .char)) (by decide) (by decide))))
  have ne110 : a ≠ a102 := Nat.ne_of_lt (Nat.lt_of_lt_of_le E0.lt (Nat.le_of_eq g102.symm))
  have A111 : Arv Z h105 a102 k102 .char (3 : Int32) [(.int (0 : Int32)), (.int (0 : Int32)), (.int (0 : Int32))] (.int (0 : Int32)) := (V102.other W105 (Ne.symm ne110))
  show Fin _ _ _ _ _ _ _ (T105.setTop (mkF m 11 #[.val (.ref a), .val (.int 3)] []))
  exact Fin.ret (v := none) X105 (fun _ => rfl) Bd.notSynchronized (by rw [e105]; exact ⟨a102, k102, rfl, N105_, kp107, (Nat.le_trans (Nat.le_refl _) (Nat.le_of_eq g102.symm)), E108, (F103.same W105), F109, A111⟩) (by decide) (by decide) (fun fs hr => X105.returnOut hx Bd.returns (hb hby d_prog_114_method_1_11) hr)
theorem d_prog_114_method_4_0 : decode prog_114_method_4_code 0 = .ok (.aload_n 0, 1) := by decide +kernel
theorem d_prog_114_method_4_1 : decode prog_114_method_4_code 1 = .ok (.getfield 13, 3) := by decide +kernel
theorem d_prog_114_method_4_4 : decode prog_114_method_4_code 4 = .ok (.ifCond .ne 7, 3) := by decide +kernel
theorem d_prog_114_method_4_11 : decode prog_114_method_4_code 11 = .ok (.iconst 0, 1) := by decide +kernel
theorem d_prog_114_method_4_12 : decode prog_114_method_4_code 12 = .ok (.ireturn, 1) := by decide +kernel
theorem d_prog_114_method_4_7 : decode prog_114_method_4_code 7 = .ok (.iconst 1, 1) := by decide +kernel
theorem d_prog_114_method_4_8 : decode prog_114_method_4_code 8 = .ok (.goto 4, 3) := by decide +kernel
def Q_emp (Z : State) (a : Addr) (L : Int32) (h0 : Heap) (n0 : Nat) (vv_ : Option Value) (hh_ : Heap) (LL_ : List Loc) : Prop := vv_ = some (.int (nar .boolean (own_z L))) ∧ Fr n0 LL_ ∧ hh_ = h0
set_option maxRecDepth 65536 in
set_option maxHeartbeats 40000000 in
theorem rm_emp (l : Launch) (Z : State) (a0 : Array Value) (hw : ∀ d ∈ tables_1, d.before a0 Z = true) (ws : List Jvm.Cond) (a : Addr) (L : Int32) (h0 : Heap) (n0 : Nat) (Z0 : n0 ≤ h0.size) (Fl : Fld Z h0 a "com/example/colonnade/colonnade/WordBuffer" "length" "I" (.int L)) :
    MetFree l (⟨"com/example/colonnade/colonnade/WordBuffer", "isEmpty", "()Z"⟩ : MethodName) (head1 (Jvm.Cond.code (⟨"com/example/colonnade/colonnade/WordBuffer", "isEmpty", "()Z"⟩ : MethodName) prog_114_method_4_code 1 (some .boolean) :: ws) ({ frames := 0, cells := 0, slots := 0, locals := 0 } : Room)) (fun aa_ U => aa_ = #[(.ref a)] ∧ Z.Warmed39 U.vm ∧ U.heap = h0) (fun _ _ _ _ _ => True) (fun _ U o U' => ∃ vv_ LL_, o = .returned vv_ ∧ Q_emp Z a L h0 n0 vv_ U'.heap LL_ ∧ FrameEnd U o U' LL_ 0 0) := by
  refine MetFree.of_bodySF (plainFor_of_name pn_com_example_colonnade_colonnade_WordBuffer) hisR ?_
  intro p e s m args below meth c s₁ Bd hml0 hP hK
  obtain ⟨rfl, hZ, hh⟩ := hP
  have hx := Bd.exec
  have hby := Bd.bytes
  have hml : c.maxLocals = 1 := hml0
  have hown : s.vm.findClass "com/example/colonnade/colonnade/WordBuffer" = some m.cls := findClass_of_methodNamed Bd.named
  have hnm := (name_of_methodNamed Bd.named Bd.method).1
  have X0 : Stand p l e ({ frames := 0, cells := 0, slots := 0, locals := 0 } : Room) s m #[(.ref a)] below meth c s₁ [] 0 0 := Stand.of_body Bd
  have e0 : s₁.heap = h0 := by rw [← hh, Bd.state]; rfl
  have N0 := Fr.nil n0
  have ef : entryFrame m #[(.ref a)] 1 = mkF m 0 #[.val (.ref a)] [] := by first | (simp [entryFrame, mkF, argsToLocals, Value.category]; done) | rfl
  refine Fin.start (Q := Q_emp Z a L h0 n0) ef ?_
  refine Fin.by (fun tt_ kk_ => XS.aloadN X0.here hx rfl (hb hby d_prog_114_method_4_0) rfl rfl kk_) ?_
  obtain ⟨T101, X101, e101, st101⟩ := getF X0 hx hZ hown (host := "") (Or.inl (w_ hw 42 rfl)) Via.refl e0 Fl (g := (mkF m 1 #[.val (.ref a)] [(.ref a)])) rfl rfl (hb hby d_prog_114_method_4_1)
  refine Fin.by (fun tt_ kk_ => st101 tt_ kk_) ?_
  show Fin _ _ _ _ _ _ _ (T101.setTop (mkF m 4 #[.val (.ref a)] [(.int L)]))
  by_cases hz0 : L = (0 : Int32)
  · refine Fin.by (fun tt_ kk_ => XS.ifNo X101.here hx rfl (hb hby d_prog_114_method_4_4) rfl ((if0 _ _).trans (teq hz0).2) kk_) ?_
    refine Fin.by (fun tt_ kk_ => XS.iconst X101.here hx rfl (hb hby d_prog_114_method_4_7) (XS.goto X101.here hx rfl (pc0 := 8) (pc' := 12) rfl (hb hby d_prog_114_method_4_8) (by decide) (by decide) kk_)) ?_
    show Fin _ _ _ _ _ _ _ (T101.setTop (mkF m 12 #[.val (.ref a)] [(.int 1)]))
    exact Fin.ret (v := some (.int (nar .boolean (1 : Int32)))) X101 (fun h => by rw [Bd.returns] at h; cases h) Bd.notSynchronized (by rw [e101]; exact ⟨(by unfold own_z; rw [if_pos hz0]), N0, rfl⟩) (by decide) (by decide) (fun fs hr => retN X101 hx (t := .boolean) Bd.returns (by simp) (hb hby d_prog_114_method_4_12) hr)
  · refine Fin.by (fun tt_ kk_ => XS.ifYes X101.here hx rfl (pc0 := 4) (pc' := 11) rfl (hb hby d_prog_114_method_4_4) rfl ((if0 _ _).trans (feq hz0).2) (by decide) (by decide) kk_) ?_
    refine Fin.by (fun tt_ kk_ => XS.iconst X101.here hx rfl (hb hby d_prog_114_method_4_11) kk_) ?_
    show Fin _ _ _ _ _ _ _ (T101.setTop (mkF m 12 #[.val (.ref a)] [(.int 0)]))
    exact Fin.ret (v := some (.int (nar .boolean (0 : Int32)))) X101 (fun h => by rw [Bd.returns] at h; cases h) Bd.notSynchronized (by rw [e101]; exact ⟨(by unfold own_z; rw [if_neg hz0]), N0, rfl⟩) (by decide) (by decide) (fun fs hr => retN X101 hx (t := .boolean) Bd.returns (by simp) (hb hby d_prog_114_method_4_12) hr)
theorem d_prog_114_method_3_0 : decode prog_114_method_3_code 0 = .ok (.aload_n 0, 1) := by decide +kernel
theorem d_prog_114_method_3_1 : decode prog_114_method_3_code 1 = .ok (.getfield 13, 3) := by decide +kernel
theorem d_prog_114_method_3_4 : decode prog_114_method_3_code 4 = .ok (.aload_n 0, 1) := by decide +kernel
theorem d_prog_114_method_3_5 : decode prog_114_method_3_code 5 = .ok (.getfield 7, 3) := by decide +kernel
theorem d_prog_114_method_3_8 : decode prog_114_method_3_code 8 = .ok (.arraylength, 1) := by decide +kernel
theorem d_prog_114_method_3_9 : decode prog_114_method_3_code 9 = .ok (.if_icmp .ge 13, 3) := by decide +kernel
theorem d_prog_114_method_3_22 : decode prog_114_method_3_code 22 = .ok (.aload_n 0, 1) := by decide +kernel
theorem d_prog_114_method_3_23 : decode prog_114_method_3_code 23 = .ok (.getfield 13, 3) := by decide +kernel
theorem d_prog_114_method_3_26 : decode prog_114_method_3_code 26 = .ok (.aload_n 0, 1) := by decide +kernel
theorem d_prog_114_method_3_27 : decode prog_114_method_3_code 27 = .ok (.getfield 7, 3) := by decide +kernel
theorem d_prog_114_method_3_30 : decode prog_114_method_3_code 30 = .ok (.arraylength, 1) := by decide +kernel
theorem d_prog_114_method_3_31 : decode prog_114_method_3_code 31 = .ok (.if_icmp .gt 13, 3) := by decide +kernel
theorem d_prog_114_method_3_34 : decode prog_114_method_3_code 34 = .ok (.aload_n 0, 1) := by decide +kernel
theorem d_prog_114_method_3_35 : decode prog_114_method_3_code 35 = .ok (.dup, 1) := by decide +kernel
theorem d_prog_114_method_3_36 : decode prog_114_method_3_code 36 = .ok (.getfield 13, 3) := by decide +kernel
theorem d_prog_114_method_3_39 : decode prog_114_method_3_code 39 = .ok (.iconst 1, 1) := by decide +kernel
theorem d_prog_114_method_3_40 : decode prog_114_method_3_code 40 = .ok (.iadd, 1) := by decide +kernel
theorem d_prog_114_method_3_41 : decode prog_114_method_3_code 41 = .ok (.putfield 13, 3) := by decide +kernel
theorem d_prog_114_method_3_44 : decode prog_114_method_3_code 44 = .ok (.return_, 1) := by decide +kernel
def Q_add0_0 (Z : State) (a : Addr) (b : Addr) (kk : ClassId) (z : Int32) (h0 : Heap) (n0 : Nat) (vv_ : Option Value) (hh_ : Heap) (LL_ : List Loc) : Prop := vv_ = none ∧ Fr n0 LL_ ∧ Keep h0 hh_ [a, b] ∧ Exa Z hh_ a "com/example/colonnade/colonnade/WordBuffer" ∧ Fld Z hh_ a "com/example/colonnade/colonnade/WordBuffer" "chars" "[C" (.ref b) ∧ Fld Z hh_ a "com/example/colonnade/colonnade/WordBuffer" "length" "I" (.int (1 : Int32)) ∧ Arv Z hh_ b kk .char (0 : Int32) [] (.int (0 : Int32))
set_option maxRecDepth 65536 in
set_option maxHeartbeats 40000000 in
theorem rm_add0_0 (l : Launch) (Z : State) (a0 : Array Value) (hw : ∀ d ∈ tables_1, d.before a0 Z = true) (ws : List Jvm.Cond) (a : Addr) (b : Addr) (kk : ClassId) (z : Int32) (h0 : Heap) (n0 : Nat) (Z0 : n0 ≤ h0.size) (E0 : Exa Z h0 a "com/example/colonnade/colonnade/WordBuffer") (Fc : Fld Z h0 a "com/example/colonnade/colonnade/WordBuffer" "chars" "[C" (.ref b)) (Fl : Fld Z h0 a "com/example/colonnade/colonnade/WordBuffer" "length" "I" (.int (0 : Int32))) (Ak : Arv Z h0 b kk .char (0 : Int32) [] (.int (0 : Int32))) (ga : n0 ≤ a) (gb : n0 ≤ b) (nab : a ≠ b) :
    MetFree l (⟨"com/example/colonnade/colonnade/WordBuffer", "add", "(C)V"⟩ : MethodName) (head1 (Jvm.Cond.code (⟨"com/example/colonnade/colonnade/WordBuffer", "add", "(C)V"⟩ : MethodName) prog_114_method_3_code 2 none :: ws) ({ frames := 0, cells := 0, slots := 0, locals := 0 } : Room)) (fun aa_ U => aa_ = #[(.ref a), (.int z)] ∧ Z.Warmed39 U.vm ∧ U.heap = h0) (fun _ _ _ _ _ => True) (fun _ U o U' => ∃ vv_ LL_, o = .returned vv_ ∧ Q_add0_0 Z a b kk z h0 n0 vv_ U'.heap LL_ ∧ FrameEnd U o U' LL_ 0 0) := by
  refine MetFree.of_bodySF (plainFor_of_name pn_com_example_colonnade_colonnade_WordBuffer) hisR ?_
  intro p e s m args below meth c s₁ Bd hml0 hP hK
  obtain ⟨rfl, hZ, hh⟩ := hP
  have hx := Bd.exec
  have hby := Bd.bytes
  have hml : c.maxLocals = 2 := hml0
  have hown : s.vm.findClass "com/example/colonnade/colonnade/WordBuffer" = some m.cls := findClass_of_methodNamed Bd.named
  have hnm := (name_of_methodNamed Bd.named Bd.method).1
  have X0 : Stand p l e ({ frames := 0, cells := 0, slots := 0, locals := 0 } : Room) s m #[(.ref a), (.int z)] below meth c s₁ [] 0 0 := Stand.of_body Bd
  have e0 : s₁.heap = h0 := by rw [← hh, Bd.state]; rfl
  have N0 := Fr.nil n0
  have ef : entryFrame m #[(.ref a), (.int z)] 2 = mkF m 0 #[.val (.ref a), .val (.int z)] [] := by first | (simp [entryFrame, mkF, argsToLocals, Value.category]; done) | rfl
  refine Fin.start (Q := Q_add0_0 Z a b kk z h0 n0) ef ?_
  refine Fin.by (fun tt_ kk_ => XS.aloadN X0.here hx rfl (hb hby d_prog_114_method_3_0) rfl rfl kk_) ?_
  obtain ⟨T101, X101, e101, st101⟩ := getF X0 hx hZ hown (host := "") (Or.inl (w_ hw 42 rfl)) Via.refl e0 Fl (g := (mkF m 1 #[.val (.ref a), .val (.int z)] [(.ref a)])) rfl rfl (hb hby d_prog_114_method_3_1)
  refine Fin.by (fun tt_ kk_ => st101 tt_ kk_) ?_
  refine Fin.by (fun tt_ kk_ => XS.aloadN X101.here hx rfl (hb hby d_prog_114_method_3_4) rfl rfl kk_) ?_
  obtain ⟨T102, X102, e102, st102⟩ := getF X101 hx hZ hown (host := "") (Or.inl (w_ hw 35 rfl)) Via.refl e101 Fc (g := (mkF m 5 #[.val (.ref a), .val (.int z)] [(.ref a), (.int 0)])) rfl rfl (hb hby d_prog_114_method_3_5)
  refine Fin.by (fun tt_ kk_ => st102 tt_ kk_) ?_
  obtain ⟨cl103, Ar103, q103, S103, N103, H103, G103⟩ := id Ak
  refine Fin.by (fun tt_ kk_ => X102.arraylength hx (by rw [e102]; exact Ar103.1) (State.isArrayOf_alike hZ.alike Ar103.2.1) (g := (mkF m 8 #[.val (.ref a), .val (.int z)] [(.ref b), (.int 0)])) rfl rfl (hb hby d_prog_114_method_3_8) _ kk_) ?_
  rw [len_of S103 N103]
  show Fin _ _ _ _ _ _ _ (T102.setTop (mkF m 9 #[.val (.ref a), .val (.int z)] [(.int 0), (.int 0)]))
  refine Fin.by (fun tt_ kk_ => XS.icmpYes X102.here hx rfl (pc0 := 9) (pc' := 22) rfl (hb hby d_prog_114_method_3_9) rfl (flt (by decide : ¬ (0 : Int32) < (0 : Int32))).2.1 (by decide) (by decide) kk_) ?_
  refine Fin.by (fun tt_ kk_ => XS.aloadN X102.here hx rfl (hb hby d_prog_114_method_3_22) rfl rfl kk_) ?_
  obtain ⟨T104, X104, e104, st104⟩ := getF X102 hx hZ hown (host := "") (Or.inl (w_ hw 42 rfl)) Via.refl e102 Fl (g := (mkF m 23 #[.val (.ref a), .val (.int z)] [(.ref a)])) rfl rfl (hb hby d_prog_114_method_3_23)
  refine Fin.by (fun tt_ kk_ => st104 tt_ kk_) ?_
  refine Fin.by (fun tt_ kk_ => XS.aloadN X104.here hx rfl (hb hby d_prog_114_method_3_26) rfl rfl kk_) ?_
  obtain ⟨T105, X105, e105, st105⟩ := getF X104 hx hZ hown (host := "") (Or.inl (w_ hw 35 rfl)) Via.refl e104 Fc (g := (mkF m 27 #[.val (.ref a), .val (.int z)] [(.ref a), (.int 0)])) rfl rfl (hb hby d_prog_114_method_3_27)
  refine Fin.by (fun tt_ kk_ => st105 tt_ kk_) ?_
  obtain ⟨cl106, Ar106, q106, S106, N106, H106, G106⟩ := id Ak
  refine Fin.by (fun tt_ kk_ => X105.arraylength hx (by rw [e105]; exact Ar106.1) (State.isArrayOf_alike hZ.alike Ar106.2.1) (g := (mkF m 30 #[.val (.ref a), .val (.int z)] [(.ref b), (.int 0)])) rfl rfl (hb hby d_prog_114_method_3_30) _ kk_) ?_
  rw [len_of S106 N106]
  show Fin _ _ _ _ _ _ _ (T105.setTop (mkF m 31 #[.val (.ref a), .val (.int z)] [(.int 0), (.int 0)]))
  refine Fin.by (fun tt_ kk_ => XS.icmpNo X105.here hx rfl (hb hby d_prog_114_method_3_31) rfl (flt (by decide : ¬ (0 : Int32) < (0 : Int32))).2.2.1 kk_) ?_
  refine Fin.by (fun tt_ kk_ => XS.aloadN X105.here hx rfl (hb hby d_prog_114_method_3_34) rfl rfl (XS.dup X105.here hx rfl (hb hby d_prog_114_method_3_35) rfl rfl kk_)) ?_
  obtain ⟨T107, X107, e107, st107⟩ := getF X105 hx hZ hown (host := "") (Or.inl (w_ hw 42 rfl)) Via.refl e105 Fl (g := (mkF m 36 #[.val (.ref a), .val (.int z)] [(.ref a), (.ref a)])) rfl rfl (hb hby d_prog_114_method_3_36)
  refine Fin.by (fun tt_ kk_ => st107 tt_ kk_) ?_
  refine Fin.by (fun tt_ kk_ => XS.iconst X107.here hx rfl (hb hby d_prog_114_method_3_39) (XS.iadd X107.here hx rfl (hb hby d_prog_114_method_3_40) rfl kk_)) ?_
  obtain ⟨T108, h108, X108, e108, W108, st108⟩ := putF X107 hx hZ hown (host := "") (Or.inl (w_ hw 42 rfl)) Via.refl e107 Fl E0 (Or.inl (w_ hw 43 rfl)) (w_ hw 29 rfl) (ty := .int) (by decide) rfl rfl (g := (mkF m 41 #[.val (.ref a), .val (.int z)] [(.int 1), (.ref a)])) rfl rfl (hb hby d_prog_114_method_3_41)
  refine Fin.by (fun tt_ kk_ => st108 tt_ kk_) ?_
  have N108_ := Fr.snoc X108 N0 ga
  have kp109 : Keep h0 h108 [a, b] := (Keep.refl h0 [a, b]).wr W108 (Or.inl (List.mem_of_getElem? (i := 0) rfl))
  have E110 : Exa Z h108 a "com/example/colonnade/colonnade/WordBuffer" := (E0.wr W108)
  have F111 : Fld Z h108 a "com/example/colonnade/colonnade/WordBuffer" "chars" "[C" (.ref b) := (Fc.other W108 (Or.inr (slot_ne (Or.inr (w_ hw 36 rfl)) (Or.inl (w_ hw 43 rfl)) (by decide) (t := (.array .char)) (t' := .int) (by decide) (by decide))))
  have A112 : Arv Z h108 b kk .char (0 : Int32) [] (.int (0 : Int32)) := (Ak.other W108 (Ne.symm nab))
  show Fin _ _ _ _ _ _ _ (T108.setTop (mkF m 44 #[.val (.ref a), .val (.int z)] []))
  exact Fin.ret (v := none) X108 (fun _ => rfl) Bd.notSynchronized (by rw [e108]; exact ⟨rfl, N108_, kp109, E110, F111, (Fl.same W108), A112⟩) (by decide) (by decide) (fun fs hr => X108.returnOut hx Bd.returns (hb hby d_prog_114_method_3_44) hr)
def Q_add0_1 (Z : State) (a : Addr) (b : Addr) (kk : ClassId) (z : Int32) (h0 : Heap) (n0 : Nat) (vv_ : Option Value) (hh_ : Heap) (LL_ : List Loc) : Prop := vv_ = none ∧ Fr n0 LL_ ∧ Keep h0 hh_ [a, b] ∧ Exa Z hh_ a "com/example/colonnade/colonnade/WordBuffer" ∧ Fld Z hh_ a "com/example/colonnade/colonnade/WordBuffer" "chars" "[C" (.ref b) ∧ Fld Z hh_ a "com/example/colonnade/colonnade/WordBuffer" "length" "I" (.int (1 : Int32)) ∧ Arv Z hh_ b kk .char (0 : Int32) [] (.int (0 : Int32))
set_option maxRecDepth 65536 in
set_option maxHeartbeats 40000000 in
theorem rm_add0_1 (l : Launch) (Z : State) (a0 : Array Value) (hw : ∀ d ∈ tables_1, d.before a0 Z = true) (ws : List Jvm.Cond) (a : Addr) (b : Addr) (kk : ClassId) (z : Int32) (h0 : Heap) (n0 : Nat) (Z0 : n0 ≤ h0.size) (E0 : Exa Z h0 a "com/example/colonnade/colonnade/WordBuffer") (Fc : Fld Z h0 a "com/example/colonnade/colonnade/WordBuffer" "chars" "[C" (.ref b)) (Fl : Fld Z h0 a "com/example/colonnade/colonnade/WordBuffer" "length" "I" (.int (1 : Int32))) (Ak : Arv Z h0 b kk .char (0 : Int32) [] (.int (0 : Int32))) (ga : n0 ≤ a) (gb : n0 ≤ b) (nab : a ≠ b) :
    MetFree l (⟨"com/example/colonnade/colonnade/WordBuffer", "add", "(C)V"⟩ : MethodName) (head1 (Jvm.Cond.code (⟨"com/example/colonnade/colonnade/WordBuffer", "add", "(C)V"⟩ : MethodName) prog_114_method_3_code 2 none :: ws) ({ frames := 0, cells := 0, slots := 0, locals := 0 } : Room)) (fun aa_ U => aa_ = #[(.ref a), (.int z)] ∧ Z.Warmed39 U.vm ∧ U.heap = h0) (fun _ _ _ _ _ => True) (fun _ U o U' => ∃ vv_ LL_, o = .returned vv_ ∧ Q_add0_1 Z a b kk z h0 n0 vv_ U'.heap LL_ ∧ FrameEnd U o U' LL_ 0 0) := by
  refine MetFree.of_bodySF (plainFor_of_name pn_com_example_colonnade_colonnade_WordBuffer) hisR ?_
  intro p e s m args below meth c s₁ Bd hml0 hP hK
  obtain ⟨rfl, hZ, hh⟩ := hP
  have hx := Bd.exec
  have hby := Bd.bytes
  have hml : c.maxLocals = 2 := hml0
  have hown : s.vm.findClass "com/example/colonnade/colonnade/WordBuffer" = some m.cls := findClass_of_methodNamed Bd.named
  have hnm := (name_of_methodNamed Bd.named Bd.method).1
  have X0 : Stand p l e ({ frames := 0, cells := 0, slots := 0, locals := 0 } : Room) s m #[(.ref a), (.int z)] below meth c s₁ [] 0 0 := Stand.of_body Bd
  have e0 : s₁.heap = h0 := by rw [← hh, Bd.state]; rfl
  have N0 := Fr.nil n0
  have ef : entryFrame m #[(.ref a), (.int z)] 2 = mkF m 0 #[.val (.ref a), .val (.int z)] [] := by first | (simp [entryFrame, mkF, argsToLocals, Value.category]; done) | rfl
  refine Fin.start (Q := Q_add0_1 Z a b kk z h0 n0) ef ?_
  refine Fin.by (fun tt_ kk_ => XS.aloadN X0.here hx rfl (hb hby d_prog_114_method_3_0) rfl rfl kk_) ?_
  obtain ⟨T101, X101, e101, st101⟩ := getF X0 hx hZ hown (host := "") (Or.inl (w_ hw 42 rfl)) Via.refl e0 Fl (g := (mkF m 1 #[.val (.ref a), .val (.int z)] [(.ref a)])) rfl rfl (hb hby d_prog_114_method_3_1)
  refine Fin.by (fun tt_ kk_ => st101 tt_ kk_) ?_
  refine Fin.by (fun tt_ kk_ => XS.aloadN X101.here hx rfl (hb hby d_prog_114_method_3_4) rfl rfl kk_) ?_
  obtain ⟨T102, X102, e102, st102⟩ := getF X101 hx hZ hown (host := "") (Or.inl (w_ hw 35 rfl)) Via.refl e101 Fc (g := (mkF m 5 #[.val (.ref a), .val (.int z)] [(.ref a), (.int 1)])) rfl rfl (hb hby d_prog_114_method_3_5)
  refine Fin.by (fun tt_ kk_ => st102 tt_ kk_) ?_
  obtain ⟨cl103, Ar103, q103, S103, N103, H103, G103⟩ := id Ak
  refine Fin.by (fun tt_ kk_ => X102.arraylength hx (by rw [e102]; exact Ar103.1) (State.isArrayOf_alike hZ.alike Ar103.2.1) (g := (mkF m 8 #[.val (.ref a), .val (.int z)] [(.ref b), (.int 1)])) rfl rfl (hb hby d_prog_114_method_3_8) _ kk_) ?_
  rw [len_of S103 N103]
  show Fin _ _ _ _ _ _ _ (T102.setTop (mkF m 9 #[.val (.ref a), .val (.int z)] [(.int 0), (.int 1)]))
  refine Fin.by (fun tt_ kk_ => XS.icmpYes X102.here hx rfl (pc0 := 9) (pc' := 22) rfl (hb hby d_prog_114_method_3_9) rfl (flt (by decide : ¬ (1 : Int32) < (0 : Int32))).2.1 (by decide) (by decide) kk_) ?_
  refine Fin.by (fun tt_ kk_ => XS.aloadN X102.here hx rfl (hb hby d_prog_114_method_3_22) rfl rfl kk_) ?_
  obtain ⟨T104, X104, e104, st104⟩ := getF X102 hx hZ hown (host := "") (Or.inl (w_ hw 42 rfl)) Via.refl e102 Fl (g := (mkF m 23 #[.val (.ref a), .val (.int z)] [(.ref a)])) rfl rfl (hb hby d_prog_114_method_3_23)
  refine Fin.by (fun tt_ kk_ => st104 tt_ kk_) ?_
  refine Fin.by (fun tt_ kk_ => XS.aloadN X104.here hx rfl (hb hby d_prog_114_method_3_26) rfl rfl kk_) ?_
  obtain ⟨T105, X105, e105, st105⟩ := getF X104 hx hZ hown (host := "") (Or.inl (w_ hw 35 rfl)) Via.refl e104 Fc (g := (mkF m 27 #[.val (.ref a), .val (.int z)] [(.ref a), (.int 1)])) rfl rfl (hb hby d_prog_114_method_3_27)
  refine Fin.by (fun tt_ kk_ => st105 tt_ kk_) ?_
  obtain ⟨cl106, Ar106, q106, S106, N106, H106, G106⟩ := id Ak
  refine Fin.by (fun tt_ kk_ => X105.arraylength hx (by rw [e105]; exact Ar106.1) (State.isArrayOf_alike hZ.alike Ar106.2.1) (g := (mkF m 30 #[.val (.ref a), .val (.int z)] [(.ref b), (.int 1)])) rfl rfl (hb hby d_prog_114_method_3_30) _ kk_) ?_
  rw [len_of S106 N106]
  show Fin _ _ _ _ _ _ _ (T105.setTop (mkF m 31 #[.val (.ref a), .val (.int z)] [(.int 0), (.int 1)]))
  refine Fin.by (fun tt_ kk_ => XS.icmpYes X105.here hx rfl (pc0 := 31) (pc' := 44) rfl (hb hby d_prog_114_method_3_31) rfl (tlt (by decide : (0 : Int32) < (1 : Int32))).2.2.1 (by decide) (by decide) kk_) ?_
  show Fin _ _ _ _ _ _ _ (T105.setTop (mkF m 44 #[.val (.ref a), .val (.int z)] []))
  exact Fin.ret (v := none) X105 (fun _ => rfl) Bd.notSynchronized (by rw [e105]; exact ⟨rfl, N0, (Keep.refl h0 [a, b]), E0, Fc, Fl, Ak⟩) (by decide) (by decide) (fun fs hr => X105.returnOut hx Bd.returns (hb hby d_prog_114_method_3_44) hr)
theorem d_prog_114_method_3_12 : decode prog_114_method_3_code 12 = .ok (.aload_n 0, 1) := by decide +kernel
theorem d_prog_114_method_3_13 : decode prog_114_method_3_code 13 = .ok (.getfield 7, 3) := by decide +kernel
theorem d_prog_114_method_3_16 : decode prog_114_method_3_code 16 = .ok (.aload_n 0, 1) := by decide +kernel
theorem d_prog_114_method_3_17 : decode prog_114_method_3_code 17 = .ok (.getfield 13, 3) := by decide +kernel
theorem d_prog_114_method_3_20 : decode prog_114_method_3_code 20 = .ok (.iload_n 1, 1) := by decide +kernel
theorem d_prog_114_method_3_21 : decode prog_114_method_3_code 21 = .ok (.castore, 1) := by decide +kernel
def Q_add1_0 (Z : State) (a : Addr) (b : Addr) (kk : ClassId) (z : Int32) (u0 : Int32) (h0 : Heap) (n0 : Nat) (vv_ : Option Value) (hh_ : Heap) (LL_ : List Loc) : Prop := vv_ = none ∧ Fr n0 LL_ ∧ Keep h0 hh_ [a, b] ∧ Exa Z hh_ a "com/example/colonnade/colonnade/WordBuffer" ∧ Fld Z hh_ a "com/example/colonnade/colonnade/WordBuffer" "chars" "[C" (.ref b) ∧ Fld Z hh_ a "com/example/colonnade/colonnade/WordBuffer" "length" "I" (.int (1 : Int32)) ∧ Arv Z hh_ b kk .char (1 : Int32) [(.int (nar .char z))] (.int (0 : Int32))
set_option maxRecDepth 65536 in
set_option maxHeartbeats 40000000 in
theorem rm_add1_0 (l : Launch) (Z : State) (a0 : Array Value) (hw : ∀ d ∈ tables_1, d.before a0 Z = true) (ws : List Jvm.Cond) (a : Addr) (b : Addr) (kk : ClassId) (z : Int32) (u0 : Int32) (h0 : Heap) (n0 : Nat) (Z0 : n0 ≤ h0.size) (E0 : Exa Z h0 a "com/example/colonnade/colonnade/WordBuffer") (Fc : Fld Z h0 a "com/example/colonnade/colonnade/WordBuffer" "chars" "[C" (.ref b)) (Fl : Fld Z h0 a "com/example/colonnade/colonnade/WordBuffer" "length" "I" (.int (0 : Int32))) (Ak : Arv Z h0 b kk .char (1 : Int32) [(.int u0)] (.int (0 : Int32))) (ga : n0 ≤ a) (gb : n0 ≤ b) (nab : a ≠ b) :
    MetFree l (⟨"com/example/colonnade/colonnade/WordBuffer", "add", "(C)V"⟩ : MethodName) (head1 (Jvm.Cond.code (⟨"com/example/colonnade/colonnade/WordBuffer", "add", "(C)V"⟩ : MethodName) prog_114_method_3_code 2 none :: ws) ({ frames := 0, cells := 0, slots := 0, locals := 0 } : Room)) (fun aa_ U => aa_ = #[(.ref a), (.int z)] ∧ Z.Warmed39 U.vm ∧ U.heap = h0) (fun _ _ _ _ _ => True) (fun _ U o U' => ∃ vv_ LL_, o = .returned vv_ ∧ Q_add1_0 Z a b kk z u0 h0 n0 vv_ U'.heap LL_ ∧ FrameEnd U o U' LL_ 0 0) := by
  refine MetFree.of_bodySF (plainFor_of_name pn_com_example_colonnade_colonnade_WordBuffer) hisR ?_
  intro p e s m args below meth c s₁ Bd hml0 hP hK
  obtain ⟨rfl, hZ, hh⟩ := hP
  have hx := Bd.exec
  have hby := Bd.bytes
  have hml : c.maxLocals = 2 := hml0
  have hown : s.vm.findClass "com/example/colonnade/colonnade/WordBuffer" = some m.cls := findClass_of_methodNamed Bd.named
  have hnm := (name_of_methodNamed Bd.named Bd.method).1
  have X0 : Stand p l e ({ frames := 0, cells := 0, slots := 0, locals := 0 } : Room) s m #[(.ref a), (.int z)] below meth c s₁ [] 0 0 := Stand.of_body Bd
  have e0 : s₁.heap = h0 := by rw [← hh, Bd.state]; rfl
  have N0 := Fr.nil n0
  have ef : entryFrame m #[(.ref a), (.int z)] 2 = mkF m 0 #[.val (.ref a), .val (.int z)] [] := by first | (simp [entryFrame, mkF, argsToLocals, Value.category]; done) | rfl
  refine Fin.start (Q := Q_add1_0 Z a b kk z u0 h0 n0) ef ?_
  refine Fin.by (fun tt_ kk_ => XS.aloadN X0.here hx rfl (hb hby d_prog_114_method_3_0) rfl rfl kk_) ?_
  obtain ⟨T101, X101, e101, st101⟩ := getF X0 hx hZ hown (host := "") (Or.inl (w_ hw 42 rfl)) Via.refl e0 Fl (g := (mkF m 1 #[.val (.ref a), .val (.int z)] [(.ref a)])) rfl rfl (hb hby d_prog_114_method_3_1)
  refine Fin.by (fun tt_ kk_ => st101 tt_ kk_) ?_
  refine Fin.by (fun tt_ kk_ => XS.aloadN X101.here hx rfl (hb hby d_prog_114_method_3_4) rfl rfl kk_) ?_
  obtain ⟨T102, X102, e102, st102⟩ := getF X101 hx hZ hown (host := "") (Or.inl (w_ hw 35 rfl)) Via.refl e101 Fc (g := (mkF m 5 #[.val (.ref a), .val (.int z)] [(.ref a), (.int 0)])) rfl rfl (hb hby d_prog_114_method_3_5)
  refine Fin.by (fun tt_ kk_ => st102 tt_ kk_) ?_
  obtain ⟨cl103, Ar103, q103, S103, N103, H103, G103⟩ := id Ak
  refine Fin.by (fun tt_ kk_ => X102.arraylength hx (by rw [e102]; exact Ar103.1) (State.isArrayOf_alike hZ.alike Ar103.2.1) (g := (mkF m 8 #[.val (.ref a), .val (.int z)] [(.ref b), (.int 0)])) rfl rfl (hb hby d_prog_114_method_3_8) _ kk_) ?_
  rw [len_of S103 N103]
  show Fin _ _ _ _ _ _ _ (T102.setTop (mkF m 9 #[.val (.ref a), .val (.int z)] [(.int 1), (.int 0)]))
  refine Fin.by (fun tt_ kk_ => XS.icmpNo X102.here hx rfl (hb hby d_prog_114_method_3_9) rfl (tlt (by decide : (0 : Int32) < (1 : Int32))).2.1 kk_) ?_
  refine Fin.by (fun tt_ kk_ => XS.aloadN X102.here hx rfl (hb hby d_prog_114_method_3_12) rfl rfl kk_) ?_
  obtain ⟨T104, X104, e104, st104⟩ := getF X102 hx hZ hown (host := "") (Or.inl (w_ hw 35 rfl)) Via.refl e102 Fc (g := (mkF m 13 #[.val (.ref a), .val (.int z)] [(.ref a)])) rfl rfl (hb hby d_prog_114_method_3_13)
  refine Fin.by (fun tt_ kk_ => st104 tt_ kk_) ?_
  refine Fin.by (fun tt_ kk_ => XS.aloadN X104.here hx rfl (hb hby d_prog_114_method_3_16) rfl rfl kk_) ?_
  obtain ⟨T105, X105, e105, st105⟩ := getF X104 hx hZ hown (host := "") (Or.inl (w_ hw 42 rfl)) Via.refl e104 Fl (g := (mkF m 17 #[.val (.ref a), .val (.int z)] [(.ref a), (.ref b)])) rfl rfl (hb hby d_prog_114_method_3_17)
  refine Fin.by (fun tt_ kk_ => st105 tt_ kk_) ?_
  refine Fin.by (fun tt_ kk_ => XS.iloadN X105.here hx rfl (hb hby d_prog_114_method_3_20) rfl kk_) ?_
  obtain ⟨cl106, Ar106, q106, S106, N106, H106, G106⟩ := id Ak
  obtain ⟨T106, h106, X106, e106, W106, st106⟩ := stC X105 hx hZ e105 Ar106 (j := (0 : Int32)) (inb_of S106 ⟨by decide, by decide⟩) (g := (mkF m 21 #[.val (.ref a), .val (.int z)] [(.int z), (.int 0), (.ref b)])) rfl rfl (hb hby d_prog_114_method_3_21)
  have V106 : Arv Z h106 b kk .char (1 : Int32) [(.int (nar .char z))] (.int (0 : Int32)) := Arv.set Ar106 q106 S106 N106 H106 G106 (fits_nar_char _) W106 0 rfl (Nat.le_of_ble_eq_true rfl)
  refine Fin.by (fun tt_ kk_ => st106 tt_ kk_) ?_
  have N106_ := Fr.snoc X106 N0 gb
  refine Fin.by (fun tt_ kk_ => XS.aloadN X106.here hx rfl (hb hby d_prog_114_method_3_22) rfl rfl kk_) ?_
  have F107 : Fld Z h106 a "com/example/colonnade/colonnade/WordBuffer" "length" "I" (.int (0 : Int32)) := (Fl.other W106 (Or.inl nab))
  obtain ⟨T108, X108, e108, st108⟩ := getF X106 hx hZ hown (host := "") (Or.inl (w_ hw 42 rfl)) Via.refl e106 F107 (g := (mkF m 23 #[.val (.ref a), .val (.int z)] [(.ref a)])) rfl rfl (hb hby d_prog_114_method_3_23)
  refine Fin.by (fun tt_ kk_ => st108 tt_ kk_) ?_
  refine Fin.by (fun tt_ kk_ => XS.aloadN X108.here hx rfl (hb hby d_prog_114_method_3_26) rfl rfl kk_) ?_
  have F109 : Fld Z h106 a "com/example/colonnade/colonnade/WordBuffer" "chars" "[C" (.ref b) := (Fc.other W106 (Or.inl nab))
  obtain ⟨T110, X110, e110, st110⟩ := getF X108 hx hZ hown (host := "") (Or.inl (w_ hw 35 rfl)) Via.refl e108 F109 (g := (mkF m 27 #[.val (.ref a), .val (.int z)] [(.ref a), (.int 0)])) rfl rfl (hb hby d_prog_114_method_3_27)
  refine Fin.by (fun tt_ kk_ => st110 tt_ kk_) ?_
  obtain ⟨cl111, Ar111, q111, S111, N111, H111, G111⟩ := id V106
  refine Fin.by (fun tt_ kk_ => X110.arraylength hx (by rw [e110]; exact Ar111.1) (State.isArrayOf_alike hZ.alike Ar111.2.1) (g := (mkF m 30 #[.val (.ref a), .val (.int z)] [(.ref b), (.int 0)])) rfl rfl (hb hby d_prog_114_method_3_30) _ kk_) ?_
  rw [len_of S111 N111]
  show Fin _ _ _ _ _ _ _ (T110.setTop (mkF m 31 #[.val (.ref a), .val (.int z)] [(.int 1), (.int 0)]))
  refine Fin.by (fun tt_ kk_ => XS.icmpNo X110.here hx rfl (hb hby d_prog_114_method_3_31) rfl (flt (by decide : ¬ (1 : Int32) < (0 : Int32))).2.2.1 kk_) ?_
  refine Fin.by (fun tt_ kk_ => XS.aloadN X110.here hx rfl (hb hby d_prog_114_method_3_34) rfl rfl (XS.dup X110.here hx rfl (hb hby d_prog_114_method_3_35) rfl rfl kk_)) ?_
  obtain ⟨T112, X112, e112, st112⟩ := getF X110 hx hZ hown (host := "") (Or.inl (w_ hw 42 rfl)) Via.refl e110 F107 (g := (mkF m 36 #[.val (.ref a), .val (.int z)] [(.ref a), (.ref a)])) rfl rfl (hb hby d_prog_114_method_3_36)
  refine Fin.by (fun tt_ kk_ => st112 tt_ kk_) ?_
  refine Fin.by (fun tt_ kk_ => XS.iconst X112.here hx rfl (hb hby d_prog_114_method_3_39) (XS.iadd X112.here hx rfl (hb hby d_prog_114_method_3_40) rfl kk_)) ?_
  have E113 : Exa Z h106 a "com/example/colonnade/colonnade/WordBuffer" := (E0.wr W106)
  obtain ⟨T114, h114, X114, e114, W114, st114⟩ := putF X112 hx hZ hown (host := "") (Or.inl (w_ hw 42 rfl)) Via.refl e112 F107 E113 (Or.inl (w_ hw 43 rfl)) (w_ hw 29 rfl) (ty := .int) (by decide) rfl rfl (g := (mkF m 41 #[.val (.ref a), .val (.int z)] [(.int 1), (.ref a)])) rfl rfl (hb hby d_prog_114_method_3_41)
  refine Fin.by (fun tt_ kk_ => st114 tt_ kk_) ?_
  have N114_ := Fr.snoc X114 N106_ ga
  have kp115 : Keep h0 h106 [a, b] := (Keep.refl h0 [a, b]).wr W106 (Or.inl (List.mem_of_getElem? (i := 1) rfl))
  have kp116 : Keep h0 h114 [a, b] := kp115.wr W114 (Or.inl (List.mem_of_getElem? (i := 0) rfl))
  have E117 : Exa Z h114 a "com/example/colonnade/colonnade/WordBuffer" := (E113.wr W114)
  have F118 : Fld Z h114 a "com/example/colonnade/colonnade/WordBuffer" "chars" "[C" (.ref b) := (F109.other W114 (Or.inr (slot_ne (Or.inr (w_ hw 36 rfl)) (Or.inl (w_ hw 43 rfl)) (by decide) (t := (.array .char)) (t' := .int) (by decide) (by decide))))
  have A119 : Arv Z h114 b kk .char (1 : Int32) [(.int (nar .char z))] (.int (0 : Int32)) := (V106.other W114 (Ne.symm nab))
  show Fin _ _ _ _ _ _ _ (T114.setTop (mkF m 44 #[.val (.ref a), .val (.int z)] []))
  exact Fin.ret (v := none) X114 (fun _ => rfl) Bd.notSynchronized (by rw [e114]; exact ⟨rfl, N114_, kp116, E117, F118, (F107.same W114), A119⟩) (by decide) (by decide) (fun fs hr => X114.returnOut hx Bd.returns (hb hby d_prog_114_method_3_44) hr)
def Q_add1_1 (Z : State) (a : Addr) (b : Addr) (kk : ClassId) (z : Int32) (u0 : Int32) (h0 : Heap) (n0 : Nat) (vv_ : Option Value) (hh_ : Heap) (LL_ : List Loc) : Prop := vv_ = none ∧ Fr n0 LL_ ∧ Keep h0 hh_ [a, b] ∧ Exa Z hh_ a "com/example/colonnade/colonnade/WordBuffer" ∧ Fld Z hh_ a "com/example/colonnade/colonnade/WordBuffer" "chars" "[C" (.ref b) ∧ Fld Z hh_ a "com/example/colonnade/colonnade/WordBuffer" "length" "I" (.int (2 : Int32)) ∧ Arv Z hh_ b kk .char (1 : Int32) [(.int u0)] (.int (0 : Int32))
set_option maxRecDepth 65536 in
set_option maxHeartbeats 40000000 in
theorem rm_add1_1 (l : Launch) (Z : State) (a0 : Array Value) (hw : ∀ d ∈ tables_1, d.before a0 Z = true) (ws : List Jvm.Cond) (a : Addr) (b : Addr) (kk : ClassId) (z : Int32) (u0 : Int32) (h0 : Heap) (n0 : Nat) (Z0 : n0 ≤ h0.size) (E0 : Exa Z h0 a "com/example/colonnade/colonnade/WordBuffer") (Fc : Fld Z h0 a "com/example/colonnade/colonnade/WordBuffer" "chars" "[C" (.ref b)) (Fl : Fld Z h0 a "com/example/colonnade/colonnade/WordBuffer" "length" "I" (.int (1 : Int32))) (Ak : Arv Z h0 b kk .char (1 : Int32) [(.int u0)] (.int (0 : Int32))) (ga : n0 ≤ a) (gb : n0 ≤ b) (nab : a ≠ b) :
    MetFree l (⟨"com/example/colonnade/colonnade/WordBuffer", "add", "(C)V"⟩ : MethodName) (head1 (Jvm.Cond.code (⟨"com/example/colonnade/colonnade/WordBuffer", "add", "(C)V"⟩ : MethodName) prog_114_method_3_code 2 none :: ws) ({ frames := 0, cells := 0, slots := 0, locals := 0 } : Room)) (fun aa_ U => aa_ = #[(.ref a), (.int z)] ∧ Z.Warmed39 U.vm ∧ U.heap = h0) (fun _ _ _ _ _ => True) (fun _ U o U' => ∃ vv_ LL_, o = .returned vv_ ∧ Q_add1_1 Z a b kk z u0 h0 n0 vv_ U'.heap LL_ ∧ FrameEnd U o U' LL_ 0 0) := by
  refine MetFree.of_bodySF (plainFor_of_name pn_com_example_colonnade_colonnade_WordBuffer) hisR ?_
  intro p e s m args below meth c s₁ Bd hml0 hP hK
  obtain ⟨rfl, hZ, hh⟩ := hP
  have hx := Bd.exec
  have hby := Bd.bytes
  have hml : c.maxLocals = 2 := hml0
  have hown : s.vm.findClass "com/example/colonnade/colonnade/WordBuffer" = some m.cls := findClass_of_methodNamed Bd.named
  have hnm := (name_of_methodNamed Bd.named Bd.method).1
  have X0 : Stand p l e ({ frames := 0, cells := 0, slots := 0, locals := 0 } : Room) s m #[(.ref a), (.int z)] below meth c s₁ [] 0 0 := Stand.of_body Bd
  have e0 : s₁.heap = h0 := by rw [← hh, Bd.state]; rfl
  have N0 := Fr.nil n0
  have ef : entryFrame m #[(.ref a), (.int z)] 2 = mkF m 0 #[.val (.ref a), .val (.int z)] [] := by first | (simp [entryFrame, mkF, argsToLocals, Value.category]; done) | rfl
  refine Fin.start (Q := Q_add1_1 Z a b kk z u0 h0 n0) ef ?_
  refine Fin.by (fun tt_ kk_ => XS.aloadN X0.here hx rfl (hb hby d_prog_114_method_3_0) rfl rfl kk_) ?_
  obtain ⟨T101, X101, e101, st101⟩ := getF X0 hx hZ hown (host := "") (Or.inl (w_ hw 42 rfl)) Via.refl e0 Fl (g := (mkF m 1 #[.val (.ref a), .val (.int z)] [(.ref a)])) rfl rfl (hb hby d_prog_114_method_3_1)
  refine Fin.by (fun tt_ kk_ => st101 tt_ kk_) ?_
  refine Fin.by (fun tt_ kk_ => XS.aloadN X101.here hx rfl (hb hby d_prog_114_method_3_4) rfl rfl kk_) ?_
  obtain ⟨T102, X102, e102, st102⟩ := getF X101 hx hZ hown (host := "") (Or.inl (w_ hw 35 rfl)) Via.refl e101 Fc (g := (mkF m 5 #[.val (.ref a), .val (.int z)] [(.ref a), (.int 1)])) rfl rfl (hb hby d_prog_114_method_3_5)
  refine Fin.by (fun tt_ kk_ => st102 tt_ kk_) ?_
  obtain ⟨cl103, Ar103, q103, S103, N103, H103, G103⟩ := id Ak
  refine Fin.by (fun tt_ kk_ => X102.arraylength hx (by rw [e102]; exact Ar103.1) (State.isArrayOf_alike hZ.alike Ar103.2.1) (g := (mkF m 8 #[.val (.ref a), .val (.int z)] [(.ref b), (.int 1)])) rfl rfl (hb hby d_prog_114_method_3_8) _ kk_) ?_
  rw [len_of S103 N103]
  show Fin _ _ _ _ _ _ _ (T102.setTop (mkF m 9 #[.val (.ref a), .val (.int z)] [(.int 1), (.int 1)]))
  refine Fin.by (fun tt_ kk_ => XS.icmpYes X102.here hx rfl (pc0 := 9) (pc' := 22) rfl (hb hby d_prog_114_method_3_9) rfl (flt (by decide : ¬ (1 : Int32) < (1 : Int32))).2.1 (by decide) (by decide) kk_) ?_
  refine Fin.by (fun tt_ kk_ => XS.aloadN X102.here hx rfl (hb hby d_prog_114_method_3_22) rfl rfl kk_) ?_
  obtain ⟨T104, X104, e104, st104⟩ := getF X102 hx hZ hown (host := "") (Or.inl (w_ hw 42 rfl)) Via.refl e102 Fl (g := (mkF m 23 #[.val (.ref a), .val (.int z)] [(.ref a)])) rfl rfl (hb hby d_prog_114_method_3_23)
  refine Fin.by (fun tt_ kk_ => st104 tt_ kk_) ?_
  refine Fin.by (fun tt_ kk_ => XS.aloadN X104.here hx rfl (hb hby d_prog_114_method_3_26) rfl rfl kk_) ?_
  obtain ⟨T105, X105, e105, st105⟩ := getF X104 hx hZ hown (host := "") (Or.inl (w_ hw 35 rfl)) Via.refl e104 Fc (g := (mkF m 27 #[.val (.ref a), .val (.int z)] [(.ref a), (.int 1)])) rfl rfl (hb hby d_prog_114_method_3_27)
  refine Fin.by (fun tt_ kk_ => st105 tt_ kk_) ?_
  obtain ⟨cl106, Ar106, q106, S106, N106, H106, G106⟩ := id Ak
  refine Fin.by (fun tt_ kk_ => X105.arraylength hx (by rw [e105]; exact Ar106.1) (State.isArrayOf_alike hZ.alike Ar106.2.1) (g := (mkF m 30 #[.val (.ref a), .val (.int z)] [(.ref b), (.int 1)])) rfl rfl (hb hby d_prog_114_method_3_30) _ kk_) ?_
  rw [len_of S106 N106]
  show Fin _ _ _ _ _ _ _ (T105.setTop (mkF m 31 #[.val (.ref a), .val (.int z)] [(.int 1), (.int 1)]))
  refine Fin.by (fun tt_ kk_ => XS.icmpNo X105.here hx rfl (hb hby d_prog_114_method_3_31) rfl (flt (by decide : ¬ (1 : Int32) < (1 : Int32))).2.2.1 kk_) ?_
  refine Fin.by (fun tt_ kk_ => XS.aloadN X105.here hx rfl (hb hby d_prog_114_method_3_34) rfl rfl (XS.dup X105.here hx rfl (hb hby d_prog_114_method_3_35) rfl rfl kk_)) ?_
  obtain ⟨T107, X107, e107, st107⟩ := getF X105 hx hZ hown (host := "") (Or.inl (w_ hw 42 rfl)) Via.refl e105 Fl (g := (mkF m 36 #[.val (.ref a), .val (.int z)] [(.ref a), (.ref a)])) rfl rfl (hb hby d_prog_114_method_3_36)
  refine Fin.by (fun tt_ kk_ => st107 tt_ kk_) ?_
  refine Fin.by (fun tt_ kk_ => XS.iconst X107.here hx rfl (hb hby d_prog_114_method_3_39) (XS.iadd X107.here hx rfl (hb hby d_prog_114_method_3_40) rfl kk_)) ?_
  obtain ⟨T108, h108, X108, e108, W108, st108⟩ := putF X107 hx hZ hown (host := "") (Or.inl (w_ hw 42 rfl)) Via.refl e107 Fl E0 (Or.inl (w_ hw 43 rfl)) (w_ hw 29 rfl) (ty := .int) (by decide) rfl rfl (g := (mkF m 41 #[.val (.ref a), .val (.int z)] [(.int 2), (.ref a)])) rfl rfl (hb hby d_prog_114_method_3_41)
  refine Fin.by (fun tt_ kk_ => st108 tt_ kk_) ?_
  have N108_ := Fr.snoc X108 N0 ga
  have kp109 : Keep h0 h108 [a, b] := (Keep.refl h0 [a, b]).wr W108 (Or.inl (List.mem_of_getElem? (i := 0) rfl))
  have E110 : Exa Z h108 a "com/example/colonnade/colonnade/WordBuffer" := (E0.wr W108)
  have F111 : Fld Z h108 a "com/example/colonnade/colonnade/WordBuffer" "chars" "[C" (.ref b) := (Fc.other W108 (Or.inr (slot_ne (Or.inr (w_ hw 36 rfl)) (Or.inl (w_ hw 43 rfl)) (by decide) (t := (.array .char)) (t' := .int) (by decide) (by decide))))
  have A112 : Arv Z h108 b kk .char (1 : Int32) [(.int u0)] (.int (0 : Int32)) := (Ak.other W108 (Ne.symm nab))
  show Fin _ _ _ _ _ _ _ (T108.setTop (mkF m 44 #[.val (.ref a), .val (.int z)] []))
  exact Fin.ret (v := none) X108 (fun _ => rfl) Bd.notSynchronized (by rw [e108]; exact ⟨rfl, N108_, kp109, E110, F111, (Fl.same W108), A112⟩) (by decide) (by decide) (fun fs hr => X108.returnOut hx Bd.returns (hb hby d_prog_114_method_3_44) hr)
def Q_add1_2 (Z : State) (a : Addr) (b : Addr) (kk : ClassId) (z : Int32) (u0 : Int32) (h0 : Heap) (n0 : Nat) (vv_ : Option Value) (hh_ : Heap) (LL_ : List Loc) : Prop := vv_ = none ∧ Fr n0 LL_ ∧ Keep h0 hh_ [a, b] ∧ Exa Z hh_ a "com/example/colonnade/colonnade/WordBuffer" ∧ Fld Z hh_ a "com/example/colonnade/colonnade/WordBuffer" "chars" "[C" (.ref b) ∧ Fld Z hh_ a "com/example/colonnade/colonnade/WordBuffer" "length" "I" (.int (2 : Int32)) ∧ Arv Z hh_ b kk .char (1 : Int32) [(.int u0)] (.int (0 : Int32))
set_option maxRecDepth 65536 in
set_option maxHeartbeats 40000000 in
theorem rm_add1_2 (l : Launch) (Z : State) (a0 : Array Value) (hw : ∀ d ∈ tables_1, d.before a0 Z = true) (ws : List Jvm.Cond) (a : Addr) (b : Addr) (kk : ClassId) (z : Int32) (u0 : Int32) (h0 : Heap) (n0 : Nat) (Z0 : n0 ≤ h0.size) (E0 : Exa Z h0 a "com/example/colonnade/colonnade/WordBuffer") (Fc : Fld Z h0 a "com/example/colonnade/colonnade/WordBuffer" "chars" "[C" (.ref b)) (Fl : Fld Z h0 a "com/example/colonnade/colonnade/WordBuffer" "length" "I" (.int (2 : Int32))) (Ak : Arv Z h0 b kk .char (1 : Int32) [(.int u0)] (.int (0 : Int32))) (ga : n0 ≤ a) (gb : n0 ≤ b) (nab : a ≠ b) :
    MetFree l (⟨"com/example/colonnade/colonnade/WordBuffer", "add", "(C)V"⟩ : MethodName) (head1 (Jvm.Cond.code (⟨"com/example/colonnade/colonnade/WordBuffer", "add", "(C)V"⟩ : MethodName) prog_114_method_3_code 2 none :: ws) ({ frames := 0, cells := 0, slots := 0, locals := 0 } : Room)) (fun aa_ U => aa_ = #[(.ref a), (.int z)] ∧ Z.Warmed39 U.vm ∧ U.heap = h0) (fun _ _ _ _ _ => True) (fun _ U o U' => ∃ vv_ LL_, o = .returned vv_ ∧ Q_add1_2 Z a b kk z u0 h0 n0 vv_ U'.heap LL_ ∧ FrameEnd U o U' LL_ 0 0) := by
  refine MetFree.of_bodySF (plainFor_of_name pn_com_example_colonnade_colonnade_WordBuffer) hisR ?_
  intro p e s m args below meth c s₁ Bd hml0 hP hK
  obtain ⟨rfl, hZ, hh⟩ := hP
  have hx := Bd.exec
  have hby := Bd.bytes
  have hml : c.maxLocals = 2 := hml0
  have hown : s.vm.findClass "com/example/colonnade/colonnade/WordBuffer" = some m.cls := findClass_of_methodNamed Bd.named
  have hnm := (name_of_methodNamed Bd.named Bd.method).1
  have X0 : Stand p l e ({ frames := 0, cells := 0, slots := 0, locals := 0 } : Room) s m #[(.ref a), (.int z)] below meth c s₁ [] 0 0 := Stand.of_body Bd
  have e0 : s₁.heap = h0 := by rw [← hh, Bd.state]; rfl
  have N0 := Fr.nil n0
  have ef : entryFrame m #[(.ref a), (.int z)] 2 = mkF m 0 #[.val (.ref a), .val (.int z)] [] := by first | (simp [entryFrame, mkF, argsToLocals, Value.category]; done) | rfl
  refine Fin.start (Q := Q_add1_2 Z a b kk z u0 h0 n0) ef ?_
  refine Fin.by (fun tt_ kk_ => XS.aloadN X0.here hx rfl (hb hby d_prog_114_method_3_0) rfl rfl kk_) ?_
  obtain ⟨T101, X101, e101, st101⟩ := getF X0 hx hZ hown (host := "") (Or.inl (w_ hw 42 rfl)) Via.refl e0 Fl (g := (mkF m 1 #[.val (.ref a), .val (.int z)] [(.ref a)])) rfl rfl (hb hby d_prog_114_method_3_1)
  refine Fin.by (fun tt_ kk_ => st101 tt_ kk_) ?_
  refine Fin.by (fun tt_ kk_ => XS.aloadN X101.here hx rfl (hb hby d_prog_114_method_3_4) rfl rfl kk_) ?_
  obtain ⟨T102, X102, e102, st102⟩ := getF X101 hx hZ hown (host := "") (Or.inl (w_ hw 35 rfl)) Via.refl e101 Fc (g := (mkF m 5 #[.val (.ref a), .val (.int z)] [(.ref a), (.int 2)])) rfl rfl (hb hby d_prog_114_method_3_5)
  refine Fin.by (fun tt_ kk_ => st102 tt_ kk_) ?_
  obtain ⟨cl103, Ar103, q103, S103, N103, H103, G103⟩ := id Ak
  refine Fin.by (fun tt_ kk_ => X102.arraylength hx (by rw [e102]; exact Ar103.1) (State.isArrayOf_alike hZ.alike Ar103.2.1) (g := (mkF m 8 #[.val (.ref a), .val (.int z)] [(.ref b), (.int 2)])) rfl rfl (hb hby d_prog_114_method_3_8) _ kk_) ?_
  rw [len_of S103 N103]
  show Fin _ _ _ _ _ _ _ (T102.setTop (mkF m 9 #[.val (.ref a), .val (.int z)] [(.int 1), (.int 2)]))
  refine Fin.by (fun tt_ kk_ => XS.icmpYes X102.here hx rfl (pc0 := 9) (pc' := 22) rfl (hb hby d_prog_114_method_3_9) rfl (flt (by decide : ¬ (2 : Int32) < (1 : Int32))).2.1 (by decide) (by decide) kk_) ?_
  refine Fin.by (fun tt_ kk_ => XS.aloadN X102.here hx rfl (hb hby d_prog_114_method_3_22) rfl rfl kk_) ?_
  obtain ⟨T104, X104, e104, st104⟩ := getF X102 hx hZ hown (host := "") (Or.inl (w_ hw 42 rfl)) Via.refl e102 Fl (g := (mkF m 23 #[.val (.ref a), .val (.int z)] [(.ref a)])) rfl rfl (hb hby d_prog_114_method_3_23)
  refine Fin.by (fun tt_ kk_ => st104 tt_ kk_) ?_
  refine Fin.by (fun tt_ kk_ => XS.aloadN X104.here hx rfl (hb hby d_prog_114_method_3_26) rfl rfl kk_) ?_
  obtain ⟨T105, X105, e105, st105⟩ := getF X104 hx hZ hown (host := "") (Or.inl (w_ hw 35 rfl)) Via.refl e104 Fc (g := (mkF m 27 #[.val (.ref a), .val (.int z)] [(.ref a), (.int 2)])) rfl rfl (hb hby d_prog_114_method_3_27)
  refine Fin.by (fun tt_ kk_ => st105 tt_ kk_) ?_
  obtain ⟨cl106, Ar106, q106, S106, N106, H106, G106⟩ := id Ak
  refine Fin.by (fun tt_ kk_ => X105.arraylength hx (by rw [e105]; exact Ar106.1) (State.isArrayOf_alike hZ.alike Ar106.2.1) (g := (mkF m 30 #[.val (.ref a), .val (.int z)] [(.ref b), (.int 2)])) rfl rfl (hb hby d_prog_114_method_3_30) _ kk_) ?_
  rw [len_of S106 N106]
  show Fin _ _ _ _ _ _ _ (T105.setTop (mkF m 31 #[.val (.ref a), .val (.int z)] [(.int 1), (.int 2)]))
  refine Fin.by (fun tt_ kk_ => XS.icmpYes X105.here hx rfl (pc0 := 31) (pc' := 44) rfl (hb hby d_prog_114_method_3_31) rfl (tlt (by decide : (1 : Int32) < (2 : Int32))).2.2.1 (by decide) (by decide) kk_) ?_
  show Fin _ _ _ _ _ _ _ (T105.setTop (mkF m 44 #[.val (.ref a), .val (.int z)] []))
  exact Fin.ret (v := none) X105 (fun _ => rfl) Bd.notSynchronized (by rw [e105]; exact ⟨rfl, N0, (Keep.refl h0 [a, b]), E0, Fc, Fl, Ak⟩) (by decide) (by decide) (fun fs hr => X105.returnOut hx Bd.returns (hb hby d_prog_114_method_3_44) hr)
def Q_add2_0 (Z : State) (a : Addr) (b : Addr) (kk : ClassId) (z : Int32) (u0 : Int32) (u1 : Int32) (h0 : Heap) (n0 : Nat) (vv_ : Option Value) (hh_ : Heap) (LL_ : List Loc) : Prop := vv_ = none ∧ Fr n0 LL_ ∧ Keep h0 hh_ [a, b] ∧ Exa Z hh_ a "com/example/colonnade/colonnade/WordBuffer" ∧ Fld Z hh_ a "com/example/colonnade/colonnade/WordBuffer" "chars" "[C" (.ref b) ∧ Fld Z hh_ a "com/example/colonnade/colonnade/WordBuffer" "length" "I" (.int (1 : Int32)) ∧ Arv Z hh_ b kk .char (2 : Int32) [(.int (nar .char z)), (.int u1)] (.int (0 : Int32))
set_option maxRecDepth 65536 in
set_option maxHeartbeats 40000000 in
theorem rm_add2_0 (l : Launch) (Z : State) (a0 : Array Value) (hw : ∀ d ∈ tables_1, d.before a0 Z = true) (ws : List Jvm.Cond) (a : Addr) (b : Addr) (kk : ClassId) (z : Int32) (u0 : Int32) (u1 : Int32) (h0 : Heap) (n0 : Nat) (Z0 : n0 ≤ h0.size) (E0 : Exa Z h0 a "com/example/colonnade/colonnade/WordBuffer") (Fc : Fld Z h0 a "com/example/colonnade/colonnade/WordBuffer" "chars" "[C" (.ref b)) (Fl : Fld Z h0 a "com/example/colonnade/colonnade/WordBuffer" "length" "I" (.int (0 : Int32))) (Ak : Arv Z h0 b kk .char (2 : Int32) [(.int u0), (.int u1)] (.int (0 : Int32))) (ga : n0 ≤ a) (gb : n0 ≤ b) (nab : a ≠ b) :
    MetFree l (⟨"com/example/colonnade/colonnade/WordBuffer", "add", "(C)V"⟩ : MethodName) (head1 (Jvm.Cond.code (⟨"com/example/colonnade/colonnade/WordBuffer", "add", "(C)V"⟩ : MethodName) prog_114_method_3_code 2 none :: ws) ({ frames := 0, cells := 0, slots := 0, locals := 0 } : Room)) (fun aa_ U => aa_ = #[(.ref a), (.int z)] ∧ Z.Warmed39 U.vm ∧ U.heap = h0) (fun _ _ _ _ _ => True) (fun _ U o U' => ∃ vv_ LL_, o = .returned vv_ ∧ Q_add2_0 Z a b kk z u0 u1 h0 n0 vv_ U'.heap LL_ ∧ FrameEnd U o U' LL_ 0 0) := by
  refine MetFree.of_bodySF (plainFor_of_name pn_com_example_colonnade_colonnade_WordBuffer) hisR ?_
  intro p e s m args below meth c s₁ Bd hml0 hP hK
  obtain ⟨rfl, hZ, hh⟩ := hP
  have hx := Bd.exec
  have hby := Bd.bytes
  have hml : c.maxLocals = 2 := hml0
  have hown : s.vm.findClass "com/example/colonnade/colonnade/WordBuffer" = some m.cls := findClass_of_methodNamed Bd.named
  have hnm := (name_of_methodNamed Bd.named Bd.method).1
  have X0 : Stand p l e ({ frames := 0, cells := 0, slots := 0, locals := 0 } : Room) s m #[(.ref a), (.int z)] below meth c s₁ [] 0 0 := Stand.of_body Bd
  have e0 : s₁.heap = h0 := by rw [← hh, Bd.state]; rfl
  have N0 := Fr.nil n0
  have ef : entryFrame m #[(.ref a), (.int z)] 2 = mkF m 0 #[.val (.ref a), .val (.int z)] [] := by first | (simp [entryFrame, mkF, argsToLocals, Value.category]; done) | rfl
  refine Fin.start (Q := Q_add2_0 Z a b kk z u0 u1 h0 n0) ef ?_
  refine Fin.by (fun tt_ kk_ => XS.aloadN X0.here hx rfl (hb hby d_prog_114_method_3_0) rfl rfl kk_) ?_
  obtain ⟨T101, X101, e101, st101⟩ := getF X0 hx hZ hown (host := "") (Or.inl (w_ hw 42 rfl)) Via.refl e0 Fl (g := (mkF m 1 #[.val (.ref a), .val (.int z)] [(.ref a)])) rfl rfl (hb hby d_prog_114_method_3_1)
  refine Fin.by (fun tt_ kk_ => st101 tt_ kk_) ?_
  refine Fin.by (fun tt_ kk_ => XS.aloadN X101.here hx rfl (hb hby d_prog_114_method_3_4) rfl rfl kk_) ?_
  obtain ⟨T102, X102, e102, st102⟩ := getF X101 hx hZ hown (host := "") (Or.inl (w_ hw 35 rfl)) Via.refl e101 Fc (g := (mkF m 5 #[.val (.ref a), .val (.int z)] [(.ref a), (.int 0)])) rfl rfl (hb hby d_prog_114_method_3_5)
  refine Fin.by (fun tt_ kk_ => st102 tt_ kk_) ?_
  obtain ⟨cl103, Ar103, q103, S103, N103, H103, G103⟩ := id Ak
  refine Fin.by (fun tt_ kk_ => X102.arraylength hx (by rw [e102]; exact Ar103.1) (State.isArrayOf_alike hZ.alike Ar103.2.1) (g := (mkF m 8 #[.val (.ref a), .val (.int z)] [(.ref b), (.int 0)])) rfl rfl (hb hby d_prog_114_method_3_8) _ kk_) ?_
  rw [len_of S103 N103]
  show Fin _ _ _ _ _ _ _ (T102.setTop (mkF m 9 #[.val (.ref a), .val (.int z)] [(.int 2), (.int 0)]))
  refine Fin.by (fun tt_ kk_ => XS.icmpNo X102.here hx rfl (hb hby d_prog_114_method_3_9) rfl (tlt (by decide : (0 : Int32) < (2 : Int32))).2.1 kk_) ?_
  refine Fin.by (fun tt_ kk_ => XS.aloadN X102.here hx rfl (hb hby d_prog_114_method_3_12) rfl rfl kk_) ?_
  obtain ⟨T104, X104, e104, st104⟩ := getF X102 hx hZ hown (host := "") (Or.inl (w_ hw 35 rfl)) Via.refl e102 Fc (g := (mkF m 13 #[.val (.ref a), .val (.int z)] [(.ref a)])) rfl rfl (hb hby d_prog_114_method_3_13)
  refine Fin.by (fun tt_ kk_ => st104 tt_ kk_) ?_
  refine Fin.by (fun tt_ kk_ => XS.aloadN X104.here hx rfl (hb hby d_prog_114_method_3_16) rfl rfl kk_) ?_
  obtain ⟨T105, X105, e105, st105⟩ := getF X104 hx hZ hown (host := "") (Or.inl (w_ hw 42 rfl)) Via.refl e104 Fl (g := (mkF m 17 #[.val (.ref a), .val (.int z)] [(.ref a), (.ref b)])) rfl rfl (hb hby d_prog_114_method_3_17)
  refine Fin.by (fun tt_ kk_ => st105 tt_ kk_) ?_
  refine Fin.by (fun tt_ kk_ => XS.iloadN X105.here hx rfl (hb hby d_prog_114_method_3_20) rfl kk_) ?_
  obtain ⟨cl106, Ar106, q106, S106, N106, H106, G106⟩ := id Ak
  obtain ⟨T106, h106, X106, e106, W106, st106⟩ := stC X105 hx hZ e105 Ar106 (j := (0 : Int32)) (inb_of S106 ⟨by decide, by decide⟩) (g := (mkF m 21 #[.val (.ref a), .val (.int z)] [(.int z), (.int 0), (.ref b)])) rfl rfl (hb hby d_prog_114_method_3_21)
  have V106 : Arv Z h106 b kk .char (2 : Int32) [(.int (nar .char z)), (.int u1)] (.int (0 : Int32)) := Arv.set Ar106 q106 S106 N106 H106 G106 (fits_nar_char _) W106 0 rfl (Nat.le_of_ble_eq_true rfl)
  refine Fin.by (fun tt_ kk_ => st106 tt_ kk_) ?_
  have N106_ := Fr.snoc X106 N0 gb
  refine Fin.by (fun tt_ kk_ => XS.aloadN X106.here hx rfl (hb hby d_prog_114_method_3_22) rfl rfl kk_) ?_
  have F107 : Fld Z h106 a "com/example/colonnade/colonnade/WordBuffer" "length" "I" (.int (0 : Int32)) := (Fl.other W106 (Or.inl nab))
  obtain ⟨T108, X108, e108, st108⟩ := getF X106 hx hZ hown (host := "") (Or.inl (w_ hw 42 rfl)) Via.refl e106 F107 (g := (mkF m 23 #[.val (.ref a), .val (.int z)] [(.ref a)])) rfl rfl (hb hby d_prog_114_method_3_23)
  refine Fin.by (fun tt_ kk_ => st108 tt_ kk_) ?_
  refine Fin.by (fun tt_ kk_ => XS.aloadN X108.here hx rfl (hb hby d_prog_114_method_3_26) rfl rfl kk_) ?_
  have F109 : Fld Z h106 a "com/example/colonnade/colonnade/WordBuffer" "chars" "[C" (.ref b) := (Fc.other W106 (Or.inl nab))
  obtain ⟨T110, X110, e110, st110⟩ := getF X108 hx hZ hown (host := "") (Or.inl (w_ hw 35 rfl)) Via.refl e108 F109 (g := (mkF m 27 #[.val (.ref a), .val (.int z)] [(.ref a), (.int 0)])) rfl rfl (hb hby d_prog_114_method_3_27)
  refine Fin.by (fun tt_ kk_ => st110 tt_ kk_) ?_
  obtain ⟨cl111, Ar111, q111, S111, N111, H111, G111⟩ := id V106
  refine Fin.by (fun tt_ kk_ => X110.arraylength hx (by rw [e110]; exact Ar111.1) (State.isArrayOf_alike hZ.alike Ar111.2.1) (g := (mkF m 30 #[.val (.ref a), .val (.int z)] [(.ref b), (.int 0)])) rfl rfl (hb hby d_prog_114_method_3_30) _ kk_) ?_
  rw [len_of S111 N111]
  show Fin _ _ _ _ _ _ _ (T110.setTop (mkF m 31 #[.val (.ref a), .val (.int z)] [(.int 2), (.int 0)]))
  refine Fin.by (fun tt_ kk_ => XS.icmpNo X110.here hx rfl (hb hby d_prog_114_method_3_31) rfl (flt (by decide : ¬ (2 : Int32) < (0 : Int32))).2.2.1 kk_) ?_
  refine Fin.by (fun tt_ kk_ => XS.aloadN X110.here hx rfl (hb hby d_prog_114_method_3_34) rfl rfl (XS.dup X110.here hx rfl (hb hby d_prog_114_method_3_35) rfl rfl kk_)) ?_
  obtain ⟨T112, X112, e112, st112⟩ := getF X110 hx hZ hown (host := "") (Or.inl (w_ hw 42 rfl)) Via.refl e110 F107 (g := (mkF m 36 #[.val (.ref a), .val (.int z)] [(.ref a), (.ref a)])) rfl rfl (hb hby d_prog_114_method_3_36)
  refine Fin.by (fun tt_ kk_ => st112 tt_ kk_) ?_
  refine Fin.by (fun tt_ kk_ => XS.iconst X112.here hx rfl (hb hby d_prog_114_method_3_39) (XS.iadd X112.here hx rfl (hb hby d_prog_114_method_3_40) rfl kk_)) ?_
  have E113 : Exa Z h106 a "com/example/colonnade/colonnade/WordBuffer" := (E0.wr W106)
  obtain ⟨T114, h114, X114, e114, W114, st114⟩ := putF X112 hx hZ hown (host := "") (Or.inl (w_ hw 42 rfl)) Via.refl e112 F107 E113 (Or.inl (w_ hw 43 rfl)) (w_ hw 29 rfl) (ty := .int) (by decide) rfl rfl (g := (mkF m 41 #[.val (.ref a), .val (.int z)] [(.int 1), (.ref a)])) rfl rfl (hb hby d_prog_114_method_3_41)
  refine Fin.by (fun tt_ kk_ => st114 tt_ kk_) ?_
  have N114_ := Fr.snoc X114 N106_ ga
  have kp115 : Keep h0 h106 [a, b] := (Keep.refl h0 [a, b]).wr W106 (Or.inl (List.mem_of_getElem? (i := 1) rfl))
  have kp116 : Keep h0 h114 [a, b] := kp115.wr W114 (Or.inl (List.mem_of_getElem? (i := 0) rfl))
  have E117 : Exa Z h114 a "com/example/colonnade/colonnade/WordBuffer" := (E113.wr W114)
  have F118 : Fld Z h114 a "com/example/colonnade/colonnade/WordBuffer" "chars" "[C" (.ref b) := (F109.other W114 (Or.inr (slot_ne (Or.inr (w_ hw 36 rfl)) (Or.inl (w_ hw 43 rfl)) (by decide) (t := (.array .char)) (t' := .int) (by decide) (by decide))))
  have A119 : Arv Z h114 b kk .char (2 : Int32) [(.int (nar .char z)), (.int u1)] (.int (0 : Int32)) := (V106.other W114 (Ne.symm nab))
  show Fin _ _ _ _ _ _ _ (T114.setTop (mkF m 44 #[.val (.ref a), .val (.int z)] []))
  exact Fin.ret (v := none) X114 (fun _ => rfl) Bd.notSynchronized (by rw [e114]; exact ⟨rfl, N114_, kp116, E117, F118, (F107.same W114), A119⟩) (by decide) (by decide) (fun fs hr => X114.returnOut hx Bd.returns (hb hby d_prog_114_method_3_44) hr)
def Q_add2_1 (Z : State) (a : Addr) (b : Addr) (kk : ClassId) (z : Int32) (u0 : Int32) (u1 : Int32) (h0 : Heap) (n0 : Nat) (vv_ : Option Value) (hh_ : Heap) (LL_ : List Loc) : Prop := vv_ = none ∧ Fr n0 LL_ ∧ Keep h0 hh_ [a, b] ∧ Exa Z hh_ a "com/example/colonnade/colonnade/WordBuffer" ∧ Fld Z hh_ a "com/example/colonnade/colonnade/WordBuffer" "chars" "[C" (.ref b) ∧ Fld Z hh_ a "com/example/colonnade/colonnade/WordBuffer" "length" "I" (.int (2 : Int32)) ∧ Arv Z hh_ b kk .char (2 : Int32) [(.int u0), (.int (nar .char z))] (.int (0 : Int32))
set_option maxRecDepth 65536 in
set_option maxHeartbeats 40000000 in
theorem rm_add2_1 (l : Launch) (Z : State) (a0 : Array Value) (hw : ∀ d ∈ tables_1, d.before a0 Z = true) (ws : List Jvm.Cond) (a : Addr) (b : Addr) (kk : ClassId) (z : Int32) (u0 : Int32) (u1 : Int32) (h0 : Heap) (n0 : Nat) (Z0 : n0 ≤ h0.size) (E0 : Exa Z h0 a "com/example/colonnade/colonnade/WordBuffer") (Fc : Fld Z h0 a "com/example/colonnade/colonnade/WordBuffer" "chars" "[C" (.ref b)) (Fl : Fld Z h0 a "com/example/colonnade/colonnade/WordBuffer" "length" "I" (.int (1 : Int32))) (Ak : Arv Z h0 b kk .char (2 : Int32) [(.int u0), (.int u1)] (.int (0 : Int32))) (ga : n0 ≤ a) (gb : n0 ≤ b) (nab : a ≠ b) :
    MetFree l (⟨"com/example/colonnade/colonnade/WordBuffer", "add", "(C)V"⟩ : MethodName) (head1 (Jvm.Cond.code (⟨"com/example/colonnade/colonnade/WordBuffer", "add", "(C)V"⟩ : MethodName) prog_114_method_3_code 2 none :: ws) ({ frames := 0, cells := 0, slots := 0, locals := 0 } : Room)) (fun aa_ U => aa_ = #[(.ref a), (.int z)] ∧ Z.Warmed39 U.vm ∧ U.heap = h0) (fun _ _ _ _ _ => True) (fun _ U o U' => ∃ vv_ LL_, o = .returned vv_ ∧ Q_add2_1 Z a b kk z u0 u1 h0 n0 vv_ U'.heap LL_ ∧ FrameEnd U o U' LL_ 0 0) := by
  refine MetFree.of_bodySF (plainFor_of_name pn_com_example_colonnade_colonnade_WordBuffer) hisR ?_
  intro p e s m args below meth c s₁ Bd hml0 hP hK
  obtain ⟨rfl, hZ, hh⟩ := hP
  have hx := Bd.exec
  have hby := Bd.bytes
  have hml : c.maxLocals = 2 := hml0
  have hown : s.vm.findClass "com/example/colonnade/colonnade/WordBuffer" = some m.cls := findClass_of_methodNamed Bd.named
  have hnm := (name_of_methodNamed Bd.named Bd.method).1
  have X0 : Stand p l e ({ frames := 0, cells := 0, slots := 0, locals := 0 } : Room) s m #[(.ref a), (.int z)] below meth c s₁ [] 0 0 := Stand.of_body Bd
  have e0 : s₁.heap = h0 := by rw [← hh, Bd.state]; rfl
  have N0 := Fr.nil n0
  have ef : entryFrame m #[(.ref a), (.int z)] 2 = mkF m 0 #[.val (.ref a), .val (.int z)] [] := by first | (simp [entryFrame, mkF, argsToLocals, Value.category]; done) | rfl
  refine Fin.start (Q := Q_add2_1 Z a b kk z u0 u1 h0 n0) ef ?_
  refine Fin.by (fun tt_ kk_ => XS.aloadN X0.here hx rfl (hb hby d_prog_114_method_3_0) rfl rfl kk_) ?_
  obtain ⟨T101, X101, e101, st101⟩ := getF X0 hx hZ hown (host := "") (Or.inl (w_ hw 42 rfl)) Via.refl e0 Fl (g := (mkF m 1 #[.val (.ref a), .val (.int z)] [(.ref a)])) rfl rfl (hb hby d_prog_114_method_3_1)
  refine Fin.by (fun tt_ kk_ => st101 tt_ kk_) ?_
  refine Fin.by (fun tt_ kk_ => XS.aloadN X101.here hx rfl (hb hby d_prog_114_method_3_4) rfl rfl kk_) ?_
  obtain ⟨T102, X102, e102, st102⟩ := getF X101 hx hZ hown (host := "") (Or.inl (w_ hw 35 rfl)) Via.refl e101 Fc (g := (mkF m 5 #[.val (.ref a), .val (.int z)] [(.ref a), (.int 1)])) rfl rfl (hb hby d_prog_114_method_3_5)
  refine Fin.by (fun tt_ kk_ => st102 tt_ kk_) ?_
  obtain ⟨cl103, Ar103, q103, S103, N103, H103, G103⟩ := id Ak
  refine Fin.by (fun tt_ kk_ => X102.arraylength hx (by rw [e102]; exact Ar103.1) (State.isArrayOf_alike hZ.alike Ar103.2.1) (g := (mkF m 8 #[.val (.ref a), .val (.int z)] [(.ref b), (.int 1)])) rfl rfl (hb hby d_prog_114_method_3_8) _ kk_) ?_
  rw [len_of S103 N103]
  show Fin _ _ _ _ _ _ _ (T102.setTop (mkF m 9 #[.val (.ref a), .val (.int z)] [(.int 2), (.int 1)]))
  refine Fin.by (fun tt_ kk_ => XS.icmpNo X102.here hx rfl (hb hby d_prog_114_method_3_9) rfl (tlt (by decide : (1 : Int32) < (2 : Int32))).2.1 kk_) ?_
  refine Fin.by (fun tt_ kk_ => XS.aloadN X102.here hx rfl (hb hby d_prog_114_method_3_12) rfl rfl kk_) ?_
  obtain ⟨T104, X104, e104, st104⟩ := getF X102 hx hZ hown (host := "") (Or.inl (w_ hw 35 rfl)) Via.refl e102 Fc (g := (mkF m 13 #[.val (.ref a), .val (.int z)] [(.ref a)])) rfl rfl (hb hby d_prog_114_method_3_13)
  refine Fin.by (fun tt_ kk_ => st104 tt_ kk_) ?_
  refine Fin.by (fun tt_ kk_ => XS.aloadN X104.here hx rfl (hb hby d_prog_114_method_3_16) rfl rfl kk_) ?_
  obtain ⟨T105, X105, e105, st105⟩ := getF X104 hx hZ hown (host := "") (Or.inl (w_ hw 42 rfl)) Via.refl e104 Fl (g := (mkF m 17 #[.val (.ref a), .val (.int z)] [(.ref a), (.ref b)])) rfl rfl (hb hby d_prog_114_method_3_17)
  refine Fin.by (fun tt_ kk_ => st105 tt_ kk_) ?_
  refine Fin.by (fun tt_ kk_ => XS.iloadN X105.here hx rfl (hb hby d_prog_114_method_3_20) rfl kk_) ?_
  obtain ⟨cl106, Ar106, q106, S106, N106, H106, G106⟩ := id Ak
  obtain ⟨T106, h106, X106, e106, W106, st106⟩ := stC X105 hx hZ e105 Ar106 (j := (1 : Int32)) (inb_of S106 ⟨by decide, by decide⟩) (g := (mkF m 21 #[.val (.ref a), .val (.int z)] [(.int z), (.int 1), (.ref b)])) rfl rfl (hb hby d_prog_114_method_3_21)
  have V106 : Arv Z h106 b kk .char (2 : Int32) [(.int u0), (.int (nar .char z))] (.int (0 : Int32)) := Arv.set Ar106 q106 S106 N106 H106 G106 (fits_nar_char _) W106 1 rfl (Nat.le_of_ble_eq_true rfl)
  refine Fin.by (fun tt_ kk_ => st106 tt_ kk_) ?_
  have N106_ := Fr.snoc X106 N0 gb
  refine Fin.by (fun tt_ kk_ => XS.aloadN X106.here hx rfl (hb hby d_prog_114_method_3_22) rfl rfl kk_) ?_
  have F107 : Fld Z h106 a "com/example/colonnade/colonnade/WordBuffer" "length" "I" (.int (1 : Int32)) := (Fl.other W106 (Or.inl nab))
  obtain ⟨T108, X108, e108, st108⟩ := getF X106 hx hZ hown (host := "") (Or.inl (w_ hw 42 rfl)) Via.refl e106 F107 (g := (mkF m 23 #[.val (.ref a), .val (.int z)] [(.ref a)])) rfl rfl (hb hby d_prog_114_method_3_23)
  refine Fin.by (fun tt_ kk_ => st108 tt_ kk_) ?_
  refine Fin.by (fun tt_ kk_ => XS.aloadN X108.here hx rfl (hb hby d_prog_114_method_3_26) rfl rfl kk_) ?_
  have F109 : Fld Z h106 a "com/example/colonnade/colonnade/WordBuffer" "chars" "[C" (.ref b) := (Fc.other W106 (Or.inl nab))
  obtain ⟨T110, X110, e110, st110⟩ := getF X108 hx hZ hown (host := "") (Or.inl (w_ hw 35 rfl)) Via.refl e108 F109 (g := (mkF m 27 #[.val (.ref a), .val (.int z)] [(.ref a), (.int 1)])) rfl rfl (hb hby d_prog_114_method_3_27)
  refine Fin.by (fun tt_ kk_ => st110 tt_ kk_) ?_
  obtain ⟨cl111, Ar111, q111, S111, N111, H111, G111⟩ := id V106
  refine Fin.by (fun tt_ kk_ => X110.arraylength hx (by rw [e110]; exact Ar111.1) (State.isArrayOf_alike hZ.alike Ar111.2.1) (g := (mkF m 30 #[.val (.ref a), .val (.int z)] [(.ref b), (.int 1)])) rfl rfl (hb hby d_prog_114_method_3_30) _ kk_) ?_
  rw [len_of S111 N111]
  show Fin _ _ _ _ _ _ _ (T110.setTop (mkF m 31 #[.val (.ref a), .val (.int z)] [(.int 2), (.int 1)]))
  refine Fin.by (fun tt_ kk_ => XS.icmpNo X110.here hx rfl (hb hby d_prog_114_method_3_31) rfl (flt (by decide : ¬ (2 : Int32) < (1 : Int32))).2.2.1 kk_) ?_
  refine Fin.by (fun tt_ kk_ => XS.aloadN X110.here hx rfl (hb hby d_prog_114_method_3_34) rfl rfl (XS.dup X110.here hx rfl (hb hby d_prog_114_method_3_35) rfl rfl kk_)) ?_
  obtain ⟨T112, X112, e112, st112⟩ := getF X110 hx hZ hown (host := "") (Or.inl (w_ hw 42 rfl)) Via.refl e110 F107 (g := (mkF m 36 #[.val (.ref a), .val (.int z)] [(.ref a), (.ref a)])) rfl rfl (hb hby d_prog_114_method_3_36)
  refine Fin.by (fun tt_ kk_ => st112 tt_ kk_) ?_
  refine Fin.by (fun tt_ kk_ => XS.iconst X112.here hx rfl (hb hby d_prog_114_method_3_39) (XS.iadd X112.here hx rfl (hb hby d_prog_114_method_3_40) rfl kk_)) ?_
  have E113 : Exa Z h106 a "com/example/colonnade/colonnade/WordBuffer" := (E0.wr W106)
  obtain ⟨T114, h114, X114, e114, W114, st114⟩ := putF X112 hx hZ hown (host := "") (Or.inl (w_ hw 42 rfl)) Via.refl e112 F107 E113 (Or.inl (w_ hw 43 rfl)) (w_ hw 29 rfl) (ty := .int) (by decide) rfl rfl (g := (mkF m 41 #[.val (.ref a), .val (.int z)] [(.int 2), (.ref a)])) rfl rfl (hb hby d_prog_114_method_3_41)
  refine Fin.by (fun tt_ kk_ => st114 tt_ kk_) ?_
  have N114_ := Fr.snoc X114 N106_ ga
  have kp115 : Keep h0 h106 [a, b] := (Keep.refl h0 [a, b]).wr W106 (Or.inl (List.mem_of_getElem? (i := 1) rfl))
  have kp116 : Keep h0 h114 [a, b] := kp115.wr W114 (Or.inl (List.mem_of_getElem? (i := 0) rfl))
  have E117 : Exa Z h114 a "com/example/colonnade/colonnade/WordBuffer" := (E113.wr W114)
  have F118 : Fld Z h114 a "com/example/colonnade/colonnade/WordBuffer" "chars" "[C" (.ref b) := (F109.other W114 (Or.inr (slot_ne (Or.inr (w_ hw 36 rfl)) (Or.inl (w_ hw 43 rfl)) (by decide) (t := (.array .char)) (t' := .int) (by decide) (by decide))))
  have A119 : Arv Z h114 b kk .char (2 : Int32) [(.int u0), (.int (nar .char z))] (.int (0 : Int32)) := (V106.other W114 (Ne.symm nab))
  show Fin _ _ _ _ _ _ _ (T114.setTop (mkF m 44 #[.val (.ref a), .val (.int z)] []))
  exact Fin.ret (v := none) X114 (fun _ => rfl) Bd.notSynchronized (by rw [e114]; exact ⟨rfl, N114_, kp116, E117, F118, (F107.same W114), A119⟩) (by decide) (by decide) (fun fs hr => X114.returnOut hx Bd.returns (hb hby d_prog_114_method_3_44) hr)
def Q_add2_2 (Z : State) (a : Addr) (b : Addr) (kk : ClassId) (z : Int32) (u0 : Int32) (u1 : Int32) (h0 : Heap) (n0 : Nat) (vv_ : Option Value) (hh_ : Heap) (LL_ : List Loc) : Prop := vv_ = none ∧ Fr n0 LL_ ∧ Keep h0 hh_ [a, b] ∧ Exa Z hh_ a "com/example/colonnade/colonnade/WordBuffer" ∧ Fld Z hh_ a "com/example/colonnade/colonnade/WordBuffer" "chars" "[C" (.ref b) ∧ Fld Z hh_ a "com/example/colonnade/colonnade/WordBuffer" "length" "I" (.int (3 : Int32)) ∧ Arv Z hh_ b kk .char (2 : Int32) [(.int u0), (.int u1)] (.int (0 : Int32))
set_option maxRecDepth 65536 in
set_option maxHeartbeats 40000000 in
theorem rm_add2_2 (l : Launch) (Z : State) (a0 : Array Value) (hw : ∀ d ∈ tables_1, d.before a0 Z = true) (ws : List Jvm.Cond) (a : Addr) (b : Addr) (kk : ClassId) (z : Int32) (u0 : Int32) (u1 : Int32) (h0 : Heap) (n0 : Nat) (Z0 : n0 ≤ h0.size) (E0 : Exa Z h0 a "com/example/colonnade/colonnade/WordBuffer") (Fc : Fld Z h0 a "com/example/colonnade/colonnade/WordBuffer" "chars" "[C" (.ref b)) (Fl : Fld Z h0 a "com/example/colonnade/colonnade/WordBuffer" "length" "I" (.int (2 : Int32))) (Ak : Arv Z h0 b kk .char (2 : Int32) [(.int u0), (.int u1)] (.int (0 : Int32))) (ga : n0 ≤ a) (gb : n0 ≤ b) (nab : a ≠ b) :
    MetFree l (⟨"com/example/colonnade/colonnade/WordBuffer", "add", "(C)V"⟩ : MethodName) (head1 (Jvm.Cond.code (⟨"com/example/colonnade/colonnade/WordBuffer", "add", "(C)V"⟩ : MethodName) prog_114_method_3_code 2 none :: ws) ({ frames := 0, cells := 0, slots := 0, locals := 0 } : Room)) (fun aa_ U => aa_ = #[(.ref a), (.int z)] ∧ Z.Warmed39 U.vm ∧ U.heap = h0) (fun _ _ _ _ _ => True) (fun _ U o U' => ∃ vv_ LL_, o = .returned vv_ ∧ Q_add2_2 Z a b kk z u0 u1 h0 n0 vv_ U'.heap LL_ ∧ FrameEnd U o U' LL_ 0 0) := by
  refine MetFree.of_bodySF (plainFor_of_name pn_com_example_colonnade_colonnade_WordBuffer) hisR ?_
  intro p e s m args below meth c s₁ Bd hml0 hP hK
  obtain ⟨rfl, hZ, hh⟩ := hP
  have hx := Bd.exec
  have hby := Bd.bytes
  have hml : c.maxLocals = 2 := hml0
  have hown : s.vm.findClass "com/example/colonnade/colonnade/WordBuffer" = some m.cls := findClass_of_methodNamed Bd.named
  have hnm := (name_of_methodNamed Bd.named Bd.method).1
  have X0 : Stand p l e ({ frames := 0, cells := 0, slots := 0, locals := 0 } : Room) s m #[(.ref a), (.int z)] below meth c s₁ [] 0 0 := Stand.of_body Bd
  have e0 : s₁.heap = h0 := by rw [← hh, Bd.state]; rfl
  have N0 := Fr.nil n0
  have ef : entryFrame m #[(.ref a), (.int z)] 2 = mkF m 0 #[.val (.ref a), .val (.int z)] [] := by first | (simp [entryFrame, mkF, argsToLocals, Value.category]; done) | rfl
  refine Fin.start (Q := Q_add2_2 Z a b kk z u0 u1 h0 n0) ef ?_
  refine Fin.by (fun tt_ kk_ => XS.aloadN X0.here hx rfl (hb hby d_prog_114_method_3_0) rfl rfl kk_) ?_
  obtain ⟨T101, X101, e101, st101⟩ := getF X0 hx hZ hown (host := "") (Or.inl (w_ hw 42 rfl)) Via.refl e0 Fl (g := (mkF m 1 #[.val (.ref a), .val (.int z)] [(.ref a)])) rfl rfl (hb hby d_prog_114_method_3_1)
  refine Fin.by (fun tt_ kk_ => st101 tt_ kk_) ?_
  refine Fin.by (fun tt_ kk_ => XS.aloadN X101.here hx rfl (hb hby d_prog_114_method_3_4) rfl rfl kk_) ?_
  obtain ⟨T102, X102, e102, st102⟩ := getF X101 hx hZ hown (host := "") (Or.inl (w_ hw 35 rfl)) Via.refl e101 Fc (g := (mkF m 5 #[.val (.ref a), .val (.int z)] [(.ref a), (.int 2)])) rfl rfl (hb hby d_prog_114_method_3_5)
  refine Fin.by (fun tt_ kk_ => st102 tt_ kk_) ?_
  obtain ⟨cl103, Ar103, q103, S103, N103, H103, G103⟩ := id Ak
  refine Fin.by (fun tt_ kk_ => X102.arraylength hx (by rw [e102]; exact Ar103.1) (State.isArrayOf_alike hZ.alike Ar103.2.1) (g := (mkF m 8 #[.val (.ref a), .val (.int z)] [(.ref b), (.int 2)])) rfl rfl (hb hby d_prog_114_method_3_8) _ kk_) ?_
  rw [len_of S103 N103]
  show Fin _ _ _ _ _ _ _ (T102.setTop (mkF m 9 #[.val (.ref a), .val (.int z)] [(.int 2), (.int 2)]))
  refine Fin.by (fun tt_ kk_ => XS.icmpYes X102.here hx rfl (pc0 := 9) (pc' := 22) rfl (hb hby d_prog_114_method_3_9) rfl (flt (by decide : ¬ (2 : Int32) < (2 : Int32))).2.1 (by decide) (by decide) kk_) ?_
  refine Fin.by (fun tt_ kk_ => XS.aloadN X102.here hx rfl (hb hby d_prog_114_method_3_22) rfl rfl kk_) ?_
  obtain ⟨T104, X104, e104, st104⟩ := getF X102 hx hZ hown (host := "") (Or.inl (w_ hw 42 rfl)) Via.refl e102 Fl (g := (mkF m 23 #[.val (.ref a), .val (.int z)] [(.ref a)])) rfl rfl (hb hby d_prog_114_method_3_23)
  refine Fin.by (fun tt_ kk_ => st104 tt_ kk_) ?_
  refine Fin.by (fun tt_ kk_ => XS.aloadN X104.here hx rfl (hb hby d_prog_114_method_3_26) rfl rfl kk_) ?_
  obtain ⟨T105, X105, e105, st105⟩ := getF X104 hx hZ hown (host := "") (Or.inl (w_ hw 35 rfl)) Via.refl e104 Fc (g := (mkF m 27 #[.val (.ref a), .val (.int z)] [(.ref a), (.int 2)])) rfl rfl (hb hby d_prog_114_method_3_27)
  refine Fin.by (fun tt_ kk_ => st105 tt_ kk_) ?_
  obtain ⟨cl106, Ar106, q106, S106, N106, H106, G106⟩ := id Ak
  refine Fin.by (fun tt_ kk_ => X105.arraylength hx (by rw [e105]; exact Ar106.1) (State.isArrayOf_alike hZ.alike Ar106.2.1) (g := (mkF m 30 #[.val (.ref a), .val (.int z)] [(.ref b), (.int 2)])) rfl rfl (hb hby d_prog_114_method_3_30) _ kk_) ?_
  rw [len_of S106 N106]
  show Fin _ _ _ _ _ _ _ (T105.setTop (mkF m 31 #[.val (.ref a), .val (.int z)] [(.int 2), (.int 2)]))
  refine Fin.by (fun tt_ kk_ => XS.icmpNo X105.here hx rfl (hb hby d_prog_114_method_3_31) rfl (flt (by decide : ¬ (2 : Int32) < (2 : Int32))).2.2.1 kk_) ?_
  refine Fin.by (fun tt_ kk_ => XS.aloadN X105.here hx rfl (hb hby d_prog_114_method_3_34) rfl rfl (XS.dup X105.here hx rfl (hb hby d_prog_114_method_3_35) rfl rfl kk_)) ?_
  obtain ⟨T107, X107, e107, st107⟩ := getF X105 hx hZ hown (host := "") (Or.inl (w_ hw 42 rfl)) Via.refl e105 Fl (g := (mkF m 36 #[.val (.ref a), .val (.int z)] [(.ref a), (.ref a)])) rfl rfl (hb hby d_prog_114_method_3_36)
  refine Fin.by (fun tt_ kk_ => st107 tt_ kk_) ?_
  refine Fin.by (fun tt_ kk_ => XS.iconst X107.here hx rfl (hb hby d_prog_114_method_3_39) (XS.iadd X107.here hx rfl (hb hby d_prog_114_method_3_40) rfl kk_)) ?_
  obtain ⟨T108, h108, X108, e108, W108, st108⟩ := putF X107 hx hZ hown (host := "") (Or.inl (w_ hw 42 rfl)) Via.refl e107 Fl E0 (Or.inl (w_ hw 43 rfl)) (w_ hw 29 rfl) (ty := .int) (by decide) rfl rfl (g := (mkF m 41 #[.val (.ref a), .val (.int z)] [(.int 3), (.ref a)])) rfl rfl (hb hby d_prog_114_method_3_41)
  refine Fin.by (fun tt_ kk_ => st108 tt_ kk_) ?_
  have N108_ := Fr.snoc X108 N0 ga
  have kp109 : Keep h0 h108 [a, b] := (Keep.refl h0 [a, b]).wr W108 (Or.inl (List.mem_of_getElem? (i := 0) rfl))
  have E110 : Exa Z h108 a "com/example/colonnade/colonnade/WordBuffer" := (E0.wr W108)
  have F111 : Fld Z h108 a "com/example/colonnade/colonnade/WordBuffer" "chars" "[C" (.ref b) := (Fc.other W108 (Or.inr (slot_ne (Or.inr (w_ hw 36 rfl)) (Or.inl (w_ hw 43 rfl)) (by decide) (t := (.array .char)) (t' := .int) (by decide) (by decide))))
  have A112 : Arv Z h108 b kk .char (2 : Int32) [(.int u0), (.int u1)] (.int (0 : Int32)) := (Ak.other W108 (Ne.symm nab))
  show Fin _ _ _ _ _ _ _ (T108.setTop (mkF m 44 #[.val (.ref a), .val (.int z)] []))
  exact Fin.ret (v := none) X108 (fun _ => rfl) Bd.notSynchronized (by rw [e108]; exact ⟨rfl, N108_, kp109, E110, F111, (Fl.same W108), A112⟩) (by decide) (by decide) (fun fs hr => X108.returnOut hx Bd.returns (hb hby d_prog_114_method_3_44) hr)
def Q_add2_3 (Z : State) (a : Addr) (b : Addr) (kk : ClassId) (z : Int32) (u0 : Int32) (u1 : Int32) (h0 : Heap) (n0 : Nat) (vv_ : Option Value) (hh_ : Heap) (LL_ : List Loc) : Prop := vv_ = none ∧ Fr n0 LL_ ∧ Keep h0 hh_ [a, b] ∧ Exa Z hh_ a "com/example/colonnade/colonnade/WordBuffer" ∧ Fld Z hh_ a "com/example/colonnade/colonnade/WordBuffer" "chars" "[C" (.ref b) ∧ Fld Z hh_ a "com/example/colonnade/colonnade/WordBuffer" "length" "I" (.int (3 : Int32)) ∧ Arv Z hh_ b kk .char (2 : Int32) [(.int u0), (.int u1)] (.int (0 : Int32))
set_option maxRecDepth 65536 in
set_option maxHeartbeats 40000000 in
theorem rm_add2_3 (l : Launch) (Z : State) (a0 : Array Value) (hw : ∀ d ∈ tables_1, d.before a0 Z = true) (ws : List Jvm.Cond) (a : Addr) (b : Addr) (kk : ClassId) (z : Int32) (u0 : Int32) (u1 : Int32) (h0 : Heap) (n0 : Nat) (Z0 : n0 ≤ h0.size) (E0 : Exa Z h0 a "com/example/colonnade/colonnade/WordBuffer") (Fc : Fld Z h0 a "com/example/colonnade/colonnade/WordBuffer" "chars" "[C" (.ref b)) (Fl : Fld Z h0 a "com/example/colonnade/colonnade/WordBuffer" "length" "I" (.int (3 : Int32))) (Ak : Arv Z h0 b kk .char (2 : Int32) [(.int u0), (.int u1)] (.int (0 : Int32))) (ga : n0 ≤ a) (gb : n0 ≤ b) (nab : a ≠ b) :
    MetFree l (⟨"com/example/colonnade/colonnade/WordBuffer", "add", "(C)V"⟩ : MethodName) (head1 (Jvm.Cond.code (⟨"com/example/colonnade/colonnade/WordBuffer", "add", "(C)V"⟩ : MethodName) prog_114_method_3_code 2 none :: ws) ({ frames := 0, cells := 0, slots := 0, locals := 0 } : Room)) (fun aa_ U => aa_ = #[(.ref a), (.int z)] ∧ Z.Warmed39 U.vm ∧ U.heap = h0) (fun _ _ _ _ _ => True) (fun _ U o U' => ∃ vv_ LL_, o = .returned vv_ ∧ Q_add2_3 Z a b kk z u0 u1 h0 n0 vv_ U'.heap LL_ ∧ FrameEnd U o U' LL_ 0 0) := by
  refine MetFree.of_bodySF (plainFor_of_name pn_com_example_colonnade_colonnade_WordBuffer) hisR ?_
  intro p e s m args below meth c s₁ Bd hml0 hP hK
  obtain ⟨rfl, hZ, hh⟩ := hP
  have hx := Bd.exec
  have hby := Bd.bytes
  have hml : c.maxLocals = 2 := hml0
  have hown : s.vm.findClass "com/example/colonnade/colonnade/WordBuffer" = some m.cls := findClass_of_methodNamed Bd.named
  have hnm := (name_of_methodNamed Bd.named Bd.method).1
  have X0 : Stand p l e ({ frames := 0, cells := 0, slots := 0, locals := 0 } : Room) s m #[(.ref a), (.int z)] below meth c s₁ [] 0 0 := Stand.of_body Bd
  have e0 : s₁.heap = h0 := by rw [← hh, Bd.state]; rfl
  have N0 := Fr.nil n0
  have ef : entryFrame m #[(.ref a), (.int z)] 2 = mkF m 0 #[.val (.ref a), .val (.int z)] [] := by first | (simp [entryFrame, mkF, argsToLocals, Value.category]; done) | rfl
  refine Fin.start (Q := Q_add2_3 Z a b kk z u0 u1 h0 n0) ef ?_
  refine Fin.by (fun tt_ kk_ => XS.aloadN X0.here hx rfl (hb hby d_prog_114_method_3_0) rfl rfl kk_) ?_
  obtain ⟨T101, X101, e101, st101⟩ := getF X0 hx hZ hown (host := "") (Or.inl (w_ hw 42 rfl)) Via.refl e0 Fl (g := (mkF m 1 #[.val (.ref a), .val (.int z)] [(.ref a)])) rfl rfl (hb hby d_prog_114_method_3_1)
  refine Fin.by (fun tt_ kk_ => st101 tt_ kk_) ?_
  refine Fin.by (fun tt_ kk_ => XS.aloadN X101.here hx rfl (hb hby d_prog_114_method_3_4) rfl rfl kk_) ?_
  obtain ⟨T102, X102, e102, st102⟩ := getF X101 hx hZ hown (host := "") (Or.inl (w_ hw 35 rfl)) Via.refl e101 Fc (g := (mkF m 5 #[.val (.ref a), .val (.int z)] [(.ref a), (.int 3)])) rfl rfl (hb hby d_prog_114_method_3_5)
  refine Fin.by (fun tt_ kk_ => st102 tt_ kk_) ?_
  obtain ⟨cl103, Ar103, q103, S103, N103, H103, G103⟩ := id Ak
  refine Fin.by (fun tt_ kk_ => X102.arraylength hx (by rw [e102]; exact Ar103.1) (State.isArrayOf_alike hZ.alike Ar103.2.1) (g := (mkF m 8 #[.val (.ref a), .val (.int z)] [(.ref b), (.int 3)])) rfl rfl (hb hby d_prog_114_method_3_8) _ kk_) ?_
  rw [len_of S103 N103]
  show Fin _ _ _ _ _ _ _ (T102.setTop (mkF m 9 #[.val (.ref a), .val (.int z)] [(.int 2), (.int 3)]))
  refine Fin.by (fun tt_ kk_ => XS.icmpYes X102.here hx rfl (pc0 := 9) (pc' := 22) rfl (hb hby d_prog_114_method_3_9) rfl (flt (by decide : ¬ (3 : Int32) < (2 : Int32))).2.1 (by decide) (by decide) kk_) ?_
  refine Fin.by (fun tt_ kk_ => XS.aloadN X102.here hx rfl (hb hby d_prog_114_method_3_22) rfl rfl kk_) ?_
  obtain ⟨T104, X104, e104, st104⟩ := getF X102 hx hZ hown (host := "") (Or.inl (w_ hw 42 rfl)) Via.refl e102 Fl (g := (mkF m 23 #[.val (.ref a), .val (.int z)] [(.ref a)])) rfl rfl (hb hby d_prog_114_method_3_23)
  refine Fin.by (fun tt_ kk_ => st104 tt_ kk_) ?_
  refine Fin.by (fun tt_ kk_ => XS.aloadN X104.here hx rfl (hb hby d_prog_114_method_3_26) rfl rfl kk_) ?_
  obtain ⟨T105, X105, e105, st105⟩ := getF X104 hx hZ hown (host := "") (Or.inl (w_ hw 35 rfl)) Via.refl e104 Fc (g := (mkF m 27 #[.val (.ref a), .val (.int z)] [(.ref a), (.int 3)])) rfl rfl (hb hby d_prog_114_method_3_27)
  refine Fin.by (fun tt_ kk_ => st105 tt_ kk_) ?_
  obtain ⟨cl106, Ar106, q106, S106, N106, H106, G106⟩ := id Ak
  refine Fin.by (fun tt_ kk_ => X105.arraylength hx (by rw [e105]; exact Ar106.1) (State.isArrayOf_alike hZ.alike Ar106.2.1) (g := (mkF m 30 #[.val (.ref a), .val (.int z)] [(.ref b), (.int 3)])) rfl rfl (hb hby d_prog_114_method_3_30) _ kk_) ?_
  rw [len_of S106 N106]
  show Fin _ _ _ _ _ _ _ (T105.setTop (mkF m 31 #[.val (.ref a), .val (.int z)] [(.int 2), (.int 3)]))
  refine Fin.by (fun tt_ kk_ => XS.icmpYes X105.here hx rfl (pc0 := 31) (pc' := 44) rfl (hb hby d_prog_114_method_3_31) rfl (tlt (by decide : (2 : Int32) < (3 : Int32))).2.2.1 (by decide) (by decide) kk_) ?_
  show Fin _ _ _ _ _ _ _ (T105.setTop (mkF m 44 #[.val (.ref a), .val (.int z)] []))
  exact Fin.ret (v := none) X105 (fun _ => rfl) Bd.notSynchronized (by rw [e105]; exact ⟨rfl, N0, (Keep.refl h0 [a, b]), E0, Fc, Fl, Ak⟩) (by decide) (by decide) (fun fs hr => X105.returnOut hx Bd.returns (hb hby d_prog_114_method_3_44) hr)
def Q_add3_0 (Z : State) (a : Addr) (b : Addr) (kk : ClassId) (z : Int32) (u0 : Int32) (u1 : Int32) (u2 : Int32) (h0 : Heap) (n0 : Nat) (vv_ : Option Value) (hh_ : Heap) (LL_ : List Loc) : Prop := vv_ = none ∧ Fr n0 LL_ ∧ Keep h0 hh_ [a, b] ∧ Exa Z hh_ a "com/example/colonnade/colonnade/WordBuffer" ∧ Fld Z hh_ a "com/example/colonnade/colonnade/WordBuffer" "chars" "[C" (.ref b) ∧ Fld Z hh_ a "com/example/colonnade/colonnade/WordBuffer" "length" "I" (.int (1 : Int32)) ∧ Arv Z hh_ b kk .char (3 : Int32) [(.int (nar .char z)), (.int u1), (.int u2)] (.int (0 : Int32))
set_option maxRecDepth 65536 in
set_option maxHeartbeats 40000000 in
theorem rm_add3_0 (l : Launch) (Z : State) (a0 : Array Value) (hw : ∀ d ∈ tables_1, d.before a0 Z = true) (ws : List Jvm.Cond) (a : Addr) (b : Addr) (kk : ClassId) (z : Int32) (u0 : Int32) (u1 : Int32) (u2 : Int32) (h0 : Heap) (n0 : Nat) (Z0 : n0 ≤ h0.size) (E0 : Exa Z h0 a "com/example/colonnade/colonnade/WordBuffer") (Fc : Fld Z h0 a "com/example/colonnade/colonnade/WordBuffer" "chars" "[C" (.ref b)) (Fl : Fld Z h0 a "com/example/colonnade/colonnade/WordBuffer" "length" "I" (.int (0 : Int32))) (Ak : Arv Z h0 b kk .char (3 : Int32) [(.int u0), (.int u1), (.int u2)] (.int (0 : Int32))) (ga : n0 ≤ a) (gb : n0 ≤ b) (nab : a ≠ b) :
    MetFree l (⟨"com/example/colonnade/colonnade/WordBuffer", "add", "(C)V"⟩ : MethodName) (head1 (Jvm.Cond.code (⟨"com/example/colonnade/colonnade/WordBuffer", "add", "(C)V"⟩ : MethodName) prog_114_method_3_code 2 none :: ws) ({ frames := 0, cells := 0, slots := 0, locals := 0 } : Room)) (fun aa_ U => aa_ = #[(.ref a), (.int z)] ∧ Z.Warmed39 U.vm ∧ U.heap = h0) (fun _ _ _ _ _ => True) (fun _ U o U' => ∃ vv_ LL_, o = .returned vv_ ∧ Q_add3_0 Z a b kk z u0 u1 u2 h0 n0 vv_ U'.heap LL_ ∧ FrameEnd U o U' LL_ 0 0) := by
  refine MetFree.of_bodySF (plainFor_of_name pn_com_example_colonnade_colonnade_WordBuffer) hisR ?_
  intro p e s m args below meth c s₁ Bd hml0 hP hK
  obtain ⟨rfl, hZ, hh⟩ := hP
  have hx := Bd.exec
  have hby := Bd.bytes
  have hml : c.maxLocals = 2 := hml0
  have hown : s.vm.findClass "com/example/colonnade/colonnade/WordBuffer" = some m.cls := findClass_of_methodNamed Bd.named
  have hnm := (name_of_methodNamed Bd.named Bd.method).1
  have X0 : Stand p l e ({ frames := 0, cells := 0, slots := 0, locals := 0 } : Room) s m #[(.ref a), (.int z)] below meth c s₁ [] 0 0 := Stand.of_body Bd
  have e0 : s₁.heap = h0 := by rw [← hh, Bd.state]; rfl
  have N0 := Fr.nil n0
  have ef : entryFrame m #[(.ref a), (.int z)] 2 = mkF m 0 #[.val (.ref a), .val (.int z)] [] := by first | (simp [entryFrame, mkF, argsToLocals, Value.category]; done) | rfl
  refine Fin.start (Q := Q_add3_0 Z a b kk z u0 u1 u2 h0 n0) ef ?_
  refine Fin.by (fun tt_ kk_ => XS.aloadN X0.here hx rfl (hb hby d_prog_114_method_3_0) rfl rfl kk_) ?_
  obtain ⟨T101, X101, e101, st101⟩ := getF X0 hx hZ hown (host := "") (Or.inl (w_ hw 42 rfl)) Via.refl e0 Fl (g := (mkF m 1 #[.val (.ref a), .val (.int z)] [(.ref a)])) rfl rfl (hb hby d_prog_114_method_3_1)
  refine Fin.by (fun tt_ kk_ => st101 tt_ kk_) ?_
  refine Fin.by (fun tt_ kk_ => XS.aloadN X101.here hx rfl (hb hby d_prog_114_method_3_4) rfl rfl kk_) ?_
  obtain ⟨T102, X102, e102, st102⟩ := getF X101 hx hZ hown (host := "") (Or.inl (w_ hw 35 rfl)) Via.refl e101 Fc (g := (mkF m 5 #[.val (.ref a), .val (.int z)] [(.ref a), (.int 0)])) rfl rfl (hb hby d_prog_114_method_3_5)
  refine Fin.by (fun tt_ kk_ => st102 tt_ kk_) ?_
  obtain ⟨cl103, Ar103, q103, S103, N103, H103, G103⟩ := id Ak
  refine Fin.by (fun tt_ kk_ => X102.arraylength hx (by rw [e102]; exact Ar103.1) (State.isArrayOf_alike hZ.alike Ar103.2.1) (g := (mkF m 8 #[.val (.ref a), .val (.int z)] [(.ref b), (.int 0)])) rfl rfl (hb hby d_prog_114_method_3_8) _ kk_) ?_
  rw [len_of S103 N103]
  show Fin _ _ _ _ _ _ _ (T102.setTop (mkF m 9 #[.val (.ref a), .val (.int z)] [(.int 3), (.int 0)]))
  refine Fin.by (fun tt_ kk_ => XS.icmpNo X102.here hx rfl (hb hby d_prog_114_method_3_9) rfl (tlt (by decide : (0 : Int32) < (3 : Int32))).2.1 kk_) ?_
  refine Fin.by (fun tt_ kk_ => XS.aloadN X102.here hx rfl (hb hby d_prog_114_method_3_12) rfl rfl kk_) ?_
  obtain ⟨T104, X104, e104, st104⟩ := getF X102 hx hZ hown (host := "") (Or.inl (w_ hw 35 rfl)) Via.refl e102 Fc (g := (mkF m 13 #[.val (.ref a), .val (.int z)] [(.ref a)])) rfl rfl (hb hby d_prog_114_method_3_13)
  refine Fin.by (fun tt_ kk_ => st104 tt_ kk_) ?_
  refine Fin.by (fun tt_ kk_ => XS.aloadN X104.here hx rfl (hb hby d_prog_114_method_3_16) rfl rfl kk_) ?_
  obtain ⟨T105, X105, e105, st105⟩ := getF X104 hx hZ hown (host := "") (Or.inl (w_ hw 42 rfl)) Via.refl e104 Fl (g := (mkF m 17 #[.val (.ref a), .val (.int z)] [(.ref a), (.ref b)])) rfl rfl (hb hby d_prog_114_method_3_17)
  refine Fin.by (fun tt_ kk_ => st105 tt_ kk_) ?_
  refine Fin.by (fun tt_ kk_ => XS.iloadN X105.here hx rfl (hb hby d_prog_114_method_3_20) rfl kk_) ?_
  obtain ⟨cl106, Ar106, q106, S106, N106, H106, G106⟩ := id Ak
  obtain ⟨T106, h106, X106, e106, W106, st106⟩ := stC X105 hx hZ e105 Ar106 (j := (0 : Int32)) (inb_of S106 ⟨by decide, by decide⟩) (g := (mkF m 21 #[.val (.ref a), .val (.int z)] [(.int z), (.int 0), (.ref b)])) rfl rfl (hb hby d_prog_114_method_3_21)
  have V106 : Arv Z h106 b kk .char (3 : Int32) [(.int (nar .char z)), (.int u1), (.int u2)] (.int (0 : Int32)) := Arv.set Ar106 q106 S106 N106 H106 G106 (fits_nar_char _) W106 0 rfl (Nat.le_of_ble_eq_true rfl)
  refine Fin.by (fun tt_ kk_ => st106 tt_ kk_) ?_
  have N106_ := Fr.snoc X106 N0 gb
  refine Fin.by (fun tt_ kk_ => XS.aloadN X106.here hx rfl (hb hby d_prog_114_method_3_22) rfl rfl kk_) ?_
  have F107 : Fld Z h106 a "com/example/colonnade/colonnade/WordBuffer" "length" "I" (.int (0 : Int32)) := (Fl.other W106 (Or.inl nab))
  obtain ⟨T108, X108, e108, st108⟩ := getF X106 hx hZ hown (host := "") (Or.inl (w_ hw 42 rfl)) Via.refl e106 F107 (g := (mkF m 23 #[.val (.ref a), .val (.int z)] [(.ref a)])) rfl rfl (hb hby d_prog_114_method_3_23)
  refine Fin.by (fun tt_ kk_ => st108 tt_ kk_) ?_
  refine Fin.by (fun tt_ kk_ => XS.aloadN X108.here hx rfl (hb hby d_prog_114_method_3_26) rfl rfl kk_) ?_
  have F109 : Fld Z h106 a "com/example/colonnade/colonnade/WordBuffer" "chars" "[C" (.ref b) := (Fc.other W106 (Or.inl nab))
  obtain ⟨T110, X110, e110, st110⟩ := getF X108 hx hZ hown (host := "") (Or.inl (w_ hw 35 rfl)) Via.refl e108 F109 (g := (mkF m 27 #[.val (.ref a), .val (.int z)] [(.ref a), (.int 0)])) rfl rfl (hb hby d_prog_114_method_3_27)
  refine Fin.by (fun tt_ kk_ => st110 tt_ kk_) ?_
  obtain ⟨cl111, Ar111, q111, S111, N111, H111, G111⟩ := id V106
  refine Fin.by (fun tt_ kk_ => X110.arraylength hx (by rw [e110]; exact Ar111.1) (State.isArrayOf_alike hZ.alike Ar111.2.1) (g := (mkF m 30 #[.val (.ref a), .val (.int z)] [(.ref b), (.int 0)])) rfl rfl (hb hby d_prog_114_method_3_30) _ kk_) ?_
  rw [len_of S111 N111]
  show Fin _ _ _ _ _ _ _ (T110.setTop (mkF m 31 #[.val (.ref a), .val (.int z)] [(.int 3), (.int 0)]))
  refine Fin.by (fun tt_ kk_ => XS.icmpNo X110.here hx rfl (hb hby d_prog_114_method_3_31) rfl (flt (by decide : ¬ (3 : Int32) < (0 : Int32))).2.2.1 kk_) ?_
  refine Fin.by (fun tt_ kk_ => XS.aloadN X110.here hx rfl (hb hby d_prog_114_method_3_34) rfl rfl (XS.dup X110.here hx rfl (hb hby d_prog_114_method_3_35) rfl rfl kk_)) ?_
  obtain ⟨T112, X112, e112, st112⟩ := getF X110 hx hZ hown (host := "") (Or.inl (w_ hw 42 rfl)) Via.refl e110 F107 (g := (mkF m 36 #[.val (.ref a), .val (.int z)] [(.ref a), (.ref a)])) rfl rfl (hb hby d_prog_114_method_3_36)
  refine Fin.by (fun tt_ kk_ => st112 tt_ kk_) ?_
  refine Fin.by (fun tt_ kk_ => XS.iconst X112.here hx rfl (hb hby d_prog_114_method_3_39) (XS.iadd X112.here hx rfl (hb hby d_prog_114_method_3_40) rfl kk_)) ?_
  have E113 : Exa Z h106 a "com/example/colonnade/colonnade/WordBuffer" := (E0.wr W106)
  obtain ⟨T114, h114, X114, e114, W114, st114⟩ := putF X112 hx hZ hown (host := "") (Or.inl (w_ hw 42 rfl)) Via.refl e112 F107 E113 (Or.inl (w_ hw 43 rfl)) (w_ hw 29 rfl) (ty := .int) (by decide) rfl rfl (g := (mkF m 41 #[.val (.ref a), .val (.int z)] [(.int 1), (.ref a)])) rfl rfl (hb hby d_prog_114_method_3_41)
  refine Fin.by (fun tt_ kk_ => st114 tt_ kk_) ?_
  have N114_ := Fr.snoc X114 N106_ ga
  have kp115 : Keep h0 h106 [a, b] := (Keep.refl h0 [a, b]).wr W106 (Or.inl (List.mem_of_getElem? (i := 1) rfl))
  have kp116 : Keep h0 h114 [a, b] := kp115.wr W114 (Or.inl (List.mem_of_getElem? (i := 0) rfl))
  have E117 : Exa Z h114 a "com/example/colonnade/colonnade/WordBuffer" := (E113.wr W114)
  have F118 : Fld Z h114 a "com/example/colonnade/colonnade/WordBuffer" "chars" "[C" (.ref b) := (F109.other W114 (Or.inr (slot_ne (Or.inr (w_ hw 36 rfl)) (Or.inl (w_ hw 43 rfl)) (by decide) (t := (.array .char)) (t' := .int) (by decide) (by decide))))
  have A119 : Arv Z h114 b kk .char (3 : Int32) [(.int (nar .char z)), (.int u1), (.int u2)] (.int (0 : Int32)) := (V106.other W114 (Ne.symm nab))
  show Fin _ _ _ _ _ _ _ (T114.setTop (mkF m 44 #[.val (.ref a), .val (.int z)] []))
  exact Fin.ret (v := none) X114 (fun _ => rfl) Bd.notSynchronized (by rw [e114]; exact ⟨rfl, N114_, kp116, E117, F118, (F107.same W114), A119⟩) (by decide) (by decide) (fun fs hr => X114.returnOut hx Bd.returns (hb hby d_prog_114_method_3_44) hr)
def Q_add3_1 (Z : State) (a : Addr) (b : Addr) (kk : ClassId) (z : Int32) (u0 : Int32) (u1 : Int32) (u2 : Int32) (h0 : Heap) (n0 : Nat) (vv_ : Option Value) (hh_ : Heap) (LL_ : List Loc) : Prop := vv_ = none ∧ Fr n0 LL_ ∧ Keep h0 hh_ [a, b] ∧ Exa Z hh_ a "com/example/colonnade/colonnade/WordBuffer" ∧ Fld Z hh_ a "com/example/colonnade/colonnade/WordBuffer" "chars" "[C" (.ref b) ∧ Fld Z hh_ a "com/example/colonnade/colonnade/WordBuffer" "length" "I" (.int (2 : Int32)) ∧ Arv Z hh_ b kk .char (3 : Int32) [(.int u0), (.int (nar .char z)), (.int u2)] (.int (0 : Int32))
set_option maxRecDepth 65536 in
set_option maxHeartbeats 40000000 in
theorem rm_add3_1 (l : Launch) (Z : State) (a0 : Array Value) (hw : ∀ d ∈ tables_1, d.before a0 Z = true) (ws : List Jvm.Cond) (a : Addr) (b : Addr) (kk : ClassId) (z : Int32) (u0 : Int32) (u1 : Int32) (u2 : Int32) (h0 : Heap) (n0 : Nat) (Z0 : n0 ≤ h0.size) (E0 : Exa Z h0 a "com/example/colonnade/colonnade/WordBuffer") (Fc : Fld Z h0 a "com/example/colonnade/colonnade/WordBuffer" "chars" "[C" (.ref b)) (Fl : Fld Z h0 a "com/example/colonnade/colonnade/WordBuffer" "length" "I" (.int (1 : Int32))) (Ak : Arv Z h0 b kk .char (3 : Int32) [(.int u0), (.int u1), (.int u2)] (.int (0 : Int32))) (ga : n0 ≤ a) (gb : n0 ≤ b) (nab : a ≠ b) :
    MetFree l (⟨"com/example/colonnade/colonnade/WordBuffer", "add", "(C)V"⟩ : MethodName) (head1 (Jvm.Cond.code (⟨"com/example/colonnade/colonnade/WordBuffer", "add", "(C)V"⟩ : MethodName) prog_114_method_3_code 2 none :: ws) ({ frames := 0, cells := 0, slots := 0, locals := 0 } : Room)) (fun aa_ U => aa_ = #[(.ref a), (.int z)] ∧ Z.Warmed39 U.vm ∧ U.heap = h0) (fun _ _ _ _ _ => True) (fun _ U o U' => ∃ vv_ LL_, o = .returned vv_ ∧ Q_add3_1 Z a b kk z u0 u1 u2 h0 n0 vv_ U'.heap LL_ ∧ FrameEnd U o U' LL_ 0 0) := by
  refine MetFree.of_bodySF (plainFor_of_name pn_com_example_colonnade_colonnade_WordBuffer) hisR ?_
  intro p e s m args below meth c s₁ Bd hml0 hP hK
  obtain ⟨rfl, hZ, hh⟩ := hP
  have hx := Bd.exec
  have hby := Bd.bytes
  have hml : c.maxLocals = 2 := hml0
  have hown : s.vm.findClass "com/example/colonnade/colonnade/WordBuffer" = some m.cls := findClass_of_methodNamed Bd.named
  have hnm := (name_of_methodNamed Bd.named Bd.method).1
  have X0 : Stand p l e ({ frames := 0, cells := 0, slots := 0, locals := 0 } : Room) s m #[(.ref a), (.int z)] below meth c s₁ [] 0 0 := Stand.of_body Bd
  have e0 : s₁.heap = h0 := by rw [← hh, Bd.state]; rfl
  have N0 := Fr.nil n0
  have ef : entryFrame m #[(.ref a), (.int z)] 2 = mkF m 0 #[.val (.ref a), .val (.int z)] [] := by first | (simp [entryFrame, mkF, argsToLocals, Value.category]; done) | rfl
  refine Fin.start (Q := Q_add3_1 Z a b kk z u0 u1 u2 h0 n0) ef ?_
  refine Fin.by (fun tt_ kk_ => XS.aloadN X0.here hx rfl (hb hby d_prog_114_method_3_0) rfl rfl kk_) ?_
  obtain ⟨T101, X101, e101, st101⟩ := getF X0 hx hZ hown (host := "") (Or.inl (w_ hw 42 rfl)) Via.refl e0 Fl (g := (mkF m 1 #[.val (.ref a), .val (.int z)] [(.ref a)])) rfl rfl (hb hby d_prog_114_method_3_1)
  refine Fin.by (fun tt_ kk_ => st101 tt_ kk_) ?_
  refine Fin.by (fun tt_ kk_ => XS.aloadN X101.here hx rfl (hb hby d_prog_114_method_3_4) rfl rfl kk_) ?_
  obtain ⟨T102, X102, e102, st102⟩ := getF X101 hx hZ hown (host := "") (Or.inl (w_ hw 35 rfl)) Via.refl e101 Fc (g := (mkF m 5 #[.val (.ref a), .val (.int z)] [(.ref a), (.int 1)])) rfl rfl (hb hby d_prog_114_method_3_5)
  refine Fin.by (fun tt_ kk_ => st102 tt_ kk_) ?_
  obtain ⟨cl103, Ar103, q103, S103, N103, H103, G103⟩ := id Ak
  refine Fin.by (fun tt_ kk_ => X102.arraylength hx (by rw [e102]; exact Ar103.1) (State.isArrayOf_alike hZ.alike Ar103.2.1) (g := (mkF m 8 #[.val (.ref a), .val (.int z)] [(.ref b), (.int 1)])) rfl rfl (hb hby d_prog_114_method_3_8) _ kk_) ?_
  rw [len_of S103 N103]
  show Fin _ _ _ _ _ _ _ (T102.setTop (mkF m 9 #[.val (.ref a), .val (.int z)] [(.int 3), (.int 1)]))
  refine Fin.by (fun tt_ kk_ => XS.icmpNo X102.here hx rfl (hb hby d_prog_114_method_3_9) rfl (tlt (by decide : (1 : Int32) < (3 : Int32))).2.1 kk_) ?_
  refine Fin.by (fun tt_ kk_ => XS.aloadN X102.here hx rfl (hb hby d_prog_114_method_3_12) rfl rfl kk_) ?_
  obtain ⟨T104, X104, e104, st104⟩ := getF X102 hx hZ hown (host := "") (Or.inl (w_ hw 35 rfl)) Via.refl e102 Fc (g := (mkF m 13 #[.val (.ref a), .val (.int z)] [(.ref a)])) rfl rfl (hb hby d_prog_114_method_3_13)
  refine Fin.by (fun tt_ kk_ => st104 tt_ kk_) ?_
  refine Fin.by (fun tt_ kk_ => XS.aloadN X104.here hx rfl (hb hby d_prog_114_method_3_16) rfl rfl kk_) ?_
  obtain ⟨T105, X105, e105, st105⟩ := getF X104 hx hZ hown (host := "") (Or.inl (w_ hw 42 rfl)) Via.refl e104 Fl (g := (mkF m 17 #[.val (.ref a), .val (.int z)] [(.ref a), (.ref b)])) rfl rfl (hb hby d_prog_114_method_3_17)
  refine Fin.by (fun tt_ kk_ => st105 tt_ kk_) ?_
  refine Fin.by (fun tt_ kk_ => XS.iloadN X105.here hx rfl (hb hby d_prog_114_method_3_20) rfl kk_) ?_
  obtain ⟨cl106, Ar106, q106, S106, N106, H106, G106⟩ := id Ak
  obtain ⟨T106, h106, X106, e106, W106, st106⟩ := stC X105 hx hZ e105 Ar106 (j := (1 : Int32)) (inb_of S106 ⟨by decide, by decide⟩) (g := (mkF m 21 #[.val (.ref a), .val (.int z)] [(.int z), (.int 1), (.ref b)])) rfl rfl (hb hby d_prog_114_method_3_21)
  have V106 : Arv Z h106 b kk .char (3 : Int32) [(.int u0), (.int (nar .char z)), (.int u2)] (.int (0 : Int32)) := Arv.set Ar106 q106 S106 N106 H106 G106 (fits_nar_char _) W106 1 rfl (Nat.le_of_ble_eq_true rfl)
  refine Fin.by (fun tt_ kk_ => st106 tt_ kk_) ?_
  have N106_ := Fr.snoc X106 N0 gb
  refine Fin.by (fun tt_ kk_ => XS.aloadN X106.here hx rfl (hb hby d_prog_114_method_3_22) rfl rfl kk_) ?_
  have F107 : Fld Z h106 a "com/example/colonnade/colonnade/WordBuffer" "length" "I" (.int (1 : Int32)) := (Fl.other W106 (Or.inl nab))
  obtain ⟨T108, X108, e108, st108⟩ := getF X106 hx hZ hown (host := "") (Or.inl (w_ hw 42 rfl)) Via.refl e106 F107 (g := (mkF m 23 #[.val (.ref a), .val (.int z)] [(.ref a)])) rfl rfl (hb hby d_prog_114_method_3_23)
  refine Fin.by (fun tt_ kk_ => st108 tt_ kk_) ?_
  refine Fin.by (fun tt_ kk_ => XS.aloadN X108.here hx rfl (hb hby d_prog_114_method_3_26) rfl rfl kk_) ?_
  have F109 : Fld Z h106 a "com/example/colonnade/colonnade/WordBuffer" "chars" "[C" (.ref b) := (Fc.other W106 (Or.inl nab))
  obtain ⟨T110, X110, e110, st110⟩ := getF X108 hx hZ hown (host := "") (Or.inl (w_ hw 35 rfl)) Via.refl e108 F109 (g := (mkF m 27 #[.val (.ref a), .val (.int z)] [(.ref a), (.int 1)])) rfl rfl (hb hby d_prog_114_method_3_27)
  refine Fin.by (fun tt_ kk_ => st110 tt_ kk_) ?_
  obtain ⟨cl111, Ar111, q111, S111, N111, H111, G111⟩ := id V106
  refine Fin.by (fun tt_ kk_ => X110.arraylength hx (by rw [e110]; exact Ar111.1) (State.isArrayOf_alike hZ.alike Ar111.2.1) (g := (mkF m 30 #[.val (.ref a), .val (.int z)] [(.ref b), (.int 1)])) rfl rfl (hb hby d_prog_114_method_3_30) _ kk_) ?_
  rw [len_of S111 N111]
  show Fin _ _ _ _ _ _ _ (T110.setTop (mkF m 31 #[.val (.ref a), .val (.int z)] [(.int 3), (.int 1)]))
  refine Fin.by (fun tt_ kk_ => XS.icmpNo X110.here hx rfl (hb hby d_prog_114_method_3_31) rfl (flt (by decide : ¬ (3 : Int32) < (1 : Int32))).2.2.1 kk_) ?_
  refine Fin.by (fun tt_ kk_ => XS.aloadN X110.here hx rfl (hb hby d_prog_114_method_3_34) rfl rfl (XS.dup X110.here hx rfl (hb hby d_prog_114_method_3_35) rfl rfl kk_)) ?_
  obtain ⟨T112, X112, e112, st112⟩ := getF X110 hx hZ hown (host := "") (Or.inl (w_ hw 42 rfl)) Via.refl e110 F107 (g := (mkF m 36 #[.val (.ref a), .val (.int z)] [(.ref a), (.ref a)])) rfl rfl (hb hby d_prog_114_method_3_36)
  refine Fin.by (fun tt_ kk_ => st112 tt_ kk_) ?_
  refine Fin.by (fun tt_ kk_ => XS.iconst X112.here hx rfl (hb hby d_prog_114_method_3_39) (XS.iadd X112.here hx rfl (hb hby d_prog_114_method_3_40) rfl kk_)) ?_
  have E113 : Exa Z h106 a "com/example/colonnade/colonnade/WordBuffer" := (E0.wr W106)
  obtain ⟨T114, h114, X114, e114, W114, st114⟩ := putF X112 hx hZ hown (host := "") (Or.inl (w_ hw 42 rfl)) Via.refl e112 F107 E113 (Or.inl (w_ hw 43 rfl)) (w_ hw 29 rfl) (ty := .int) (by decide) rfl rfl (g := (mkF m 41 #[.val (.ref a), .val (.int z)] [(.int 2), (.ref a)])) rfl rfl (hb hby d_prog_114_method_3_41)
  refine Fin.by (fun tt_ kk_ => st114 tt_ kk_) ?_
  have N114_ := Fr.snoc X114 N106_ ga
  have kp115 : Keep h0 h106 [a, b] := (Keep.refl h0 [a, b]).wr W106 (Or.inl (List.mem_of_getElem? (i := 1) rfl))
  have kp116 : Keep h0 h114 [a, b] := kp115.wr W114 (Or.inl (List.mem_of_getElem? (i := 0) rfl))
  have E117 : Exa Z h114 a "com/example/colonnade/colonnade/WordBuffer" := (E113.wr W114)
  have F118 : Fld Z h114 a "com/example/colonnade/colonnade/WordBuffer" "chars" "[C" (.ref b) := (F109.other W114 (Or.inr (slot_ne (Or.inr (w_ hw 36 rfl)) (Or.inl (w_ hw 43 rfl)) (by decide) (t := (.array .char)) (t' := .int) (by decide) (by decide))))
  have A119 : Arv Z h114 b kk .char (3 : Int32) [(.int u0), (.int (nar .char z)), (.int u2)] (.int (0 : Int32)) := (V106.other W114 (Ne.symm nab))
  show Fin _ _ _ _ _ _ _ (T114.setTop (mkF m 44 #[.val (.ref a), .val (.int z)] []))
  exact Fin.ret (v := none) X114 (fun _ => rfl) Bd.notSynchronized (by rw [e114]; exact ⟨rfl, N114_, kp116, E117, F118, (F107.same W114), A119⟩) (by decide) (by decide) (fun fs hr => X114.returnOut hx Bd.returns (hb hby d_prog_114_method_3_44) hr)
def Q_add3_2 (Z : State) (a : Addr) (b : Addr) (kk : ClassId) (z : Int32) (u0 : Int32) (u1 : Int32) (u2 : Int32) (h0 : Heap) (n0 : Nat) (vv_ : Option Value) (hh_ : Heap) (LL_ : List Loc) : Prop := vv_ = none ∧ Fr n0 LL_ ∧ Keep h0 hh_ [a, b] ∧ Exa Z hh_ a "com/example/colonnade/colonnade/WordBuffer" ∧ Fld Z hh_ a "com/example/colonnade/colonnade/WordBuffer" "chars" "[C" (.ref b) ∧ Fld Z hh_ a "com/example/colonnade/colonnade/WordBuffer" "length" "I" (.int (3 : Int32)) ∧ Arv Z hh_ b kk .char (3 : Int32) [(.int u0), (.int u1), (.int (nar .char z))] (.int (0 : Int32))
set_option maxRecDepth 65536 in
set_option maxHeartbeats 40000000 in
theorem rm_add3_2 (l : Launch) (Z : State) (a0 : Array Value) (hw : ∀ d ∈ tables_1, d.before a0 Z = true) (ws : List Jvm.Cond) (a : Addr) (b : Addr) (kk : ClassId) (z : Int32) (u0 : Int32) (u1 : Int32) (u2 : Int32) (h0 : Heap) (n0 : Nat) (Z0 : n0 ≤ h0.size) (E0 : Exa Z h0 a "com/example/colonnade/colonnade/WordBuffer") (Fc : Fld Z h0 a "com/example/colonnade/colonnade/WordBuffer" "chars" "[C" (.ref b)) (Fl : Fld Z h0 a "com/example/colonnade/colonnade/WordBuffer" "length" "I" (.int (2 : Int32))) (Ak : Arv Z h0 b kk .char (3 : Int32) [(.int u0), (.int u1), (.int u2)] (.int (0 : Int32))) (ga : n0 ≤ a) (gb : n0 ≤ b) (nab : a ≠ b) :
    MetFree l (⟨"com/example/colonnade/colonnade/WordBuffer", "add", "(C)V"⟩ : MethodName) (head1 (Jvm.Cond.code (⟨"com/example/colonnade/colonnade/WordBuffer", "add", "(C)V"⟩ : MethodName) prog_114_method_3_code 2 none :: ws) ({ frames := 0, cells := 0, slots := 0, locals := 0 } : Room)) (fun aa_ U => aa_ = #[(.ref a), (.int z)] ∧ Z.Warmed39 U.vm ∧ U.heap = h0) (fun _ _ _ _ _ => True) (fun _ U o U' => ∃ vv_ LL_, o = .returned vv_ ∧ Q_add3_2 Z a b kk z u0 u1 u2 h0 n0 vv_ U'.heap LL_ ∧ FrameEnd U o U' LL_ 0 0) := by
  refine MetFree.of_bodySF (plainFor_of_name pn_com_example_colonnade_colonnade_WordBuffer) hisR ?_
  intro p e s m args below meth c s₁ Bd hml0 hP hK
  obtain ⟨rfl, hZ, hh⟩ := hP
  have hx := Bd.exec
  have hby := Bd.bytes
  have hml : c.maxLocals = 2 := hml0
  have hown : s.vm.findClass "com/example/colonnade/colonnade/WordBuffer" = some m.cls := findClass_of_methodNamed Bd.named
  have hnm := (name_of_methodNamed Bd.named Bd.method).1
  have X0 : Stand p l e ({ frames := 0, cells := 0, slots := 0, locals := 0 } : Room) s m #[(.ref a), (.int z)] below meth c s₁ [] 0 0 := Stand.of_body Bd
  have e0 : s₁.heap = h0 := by rw [← hh, Bd.state]; rfl
  have N0 := Fr.nil n0
  have ef : entryFrame m #[(.ref a), (.int z)] 2 = mkF m 0 #[.val (.ref a), .val (.int z)] [] := by first | (simp [entryFrame, mkF, argsToLocals, Value.category]; done) | rfl
  refine Fin.start (Q := Q_add3_2 Z a b kk z u0 u1 u2 h0 n0) ef ?_
  refine Fin.by (fun tt_ kk_ => XS.aloadN X0.here hx rfl (hb hby d_prog_114_method_3_0) rfl rfl kk_) ?_
  obtain ⟨T101, X101, e101, st101⟩ := getF X0 hx hZ hown (host := "") (Or.inl (w_ hw 42 rfl)) Via.refl e0 Fl (g := (mkF m 1 #[.val (.ref a), .val (.int z)] [(.ref a)])) rfl rfl (hb hby d_prog_114_method_3_1)
  refine Fin.by (fun tt_ kk_ => st101 tt_ kk_) ?_
  refine Fin.by (fun tt_ kk_ => XS.aloadN X101.here hx rfl (hb hby d_prog_114_method_3_4) rfl rfl kk_) ?_
  obtain ⟨T102, X102, e102, st102⟩ := getF X101 hx hZ hown (host := "") (Or.inl (w_ hw 35 rfl)) Via.refl e101 Fc (g := (mkF m 5 #[.val (.ref a), .val (.int z)] [(.ref a), (.int 2)])) rfl rfl (hb hby d_prog_114_method_3_5)
  refine Fin.by (fun tt_ kk_ => st102 tt_ kk_) ?_
  obtain ⟨cl103, Ar103, q103, S103, N103, H103, G103⟩ := id Ak
  refine Fin.by (fun tt_ kk_ => X102.arraylength hx (by rw [e102]; exact Ar103.1) (State.isArrayOf_alike hZ.alike Ar103.2.1) (g := (mkF m 8 #[.val (.ref a), .val (.int z)] [(.ref b), (.int 2)])) rfl rfl (hb hby d_prog_114_method_3_8) _ kk_) ?_
  rw [len_of S103 N103]
  show Fin _ _ _ _ _ _ _ (T102.setTop (mkF m 9 #[.val (.ref a), .val (.int z)] [(.int 3), (.int 2)]))
  refine Fin.by (fun tt_ kk_ => XS.icmpNo X102.here hx rfl (hb hby d_prog_114_method_3_9) rfl (tlt (by decide : (2 : Int32) < (3 : Int32))).2.1 kk_) ?_
  refine Fin.by (fun tt_ kk_ => XS.aloadN X102.here hx rfl (hb hby d_prog_114_method_3_12) rfl rfl kk_) ?_
  obtain ⟨T104, X104, e104, st104⟩ := getF X102 hx hZ hown (host := "") (Or.inl (w_ hw 35 rfl)) Via.refl e102 Fc (g := (mkF m 13 #[.val (.ref a), .val (.int z)] [(.ref a)])) rfl rfl (hb hby d_prog_114_method_3_13)
  refine Fin.by (fun tt_ kk_ => st104 tt_ kk_) ?_
  refine Fin.by (fun tt_ kk_ => XS.aloadN X104.here hx rfl (hb hby d_prog_114_method_3_16) rfl rfl kk_) ?_
  obtain ⟨T105, X105, e105, st105⟩ := getF X104 hx hZ hown (host := "") (Or.inl (w_ hw 42 rfl)) Via.refl e104 Fl (g := (mkF m 17 #[.val (.ref a), .val (.int z)] [(.ref a), (.ref b)])) rfl rfl (hb hby d_prog_114_method_3_17)
  refine Fin.by (fun tt_ kk_ => st105 tt_ kk_) ?_
  refine Fin.by (fun tt_ kk_ => XS.iloadN X105.here hx rfl (hb hby d_prog_114_method_3_20) rfl kk_) ?_
  obtain ⟨cl106, Ar106, q106, S106, N106, H106, G106⟩ := id Ak
  obtain ⟨T106, h106, X106, e106, W106, st106⟩ := stC X105 hx hZ e105 Ar106 (j := (2 : Int32)) (inb_of S106 ⟨by decide, by decide⟩) (g := (mkF m 21 #[.val (.ref a), .val (.int z)] [(.int z), (.int 2), (.ref b)])) rfl rfl (hb hby d_prog_114_method_3_21)
  have V106 : Arv Z h106 b kk .char (3 : Int32) [(.int u0), (.int u1), (.int (nar .char z))] (.int (0 : Int32)) := Arv.set Ar106 q106 S106 N106 H106 G106 (fits_nar_char _) W106 2 rfl (Nat.le_of_ble_eq_true rfl)
  refine Fin.by (fun tt_ kk_ => st106 tt_ kk_) ?_
  have N106_ := Fr.snoc X106 N0 gb
  refine Fin.by (fun tt_ kk_ => XS.aloadN X106.here hx rfl (hb hby d_prog_114_method_3_22) rfl rfl kk_) ?_
  have F107 : Fld Z h106 a "com/example/colonnade/colonnade/WordBuffer" "length" "I" (.int (2 : Int32)) := (Fl.other W106 (Or.inl nab))
  obtain ⟨T108, X108, e108, st108⟩ := getF X106 hx hZ hown (host := "") (Or.inl (w_ hw 42 rfl)) Via.refl e106 F107 (g := (mkF m 23 #[.val (.ref a), .val (.int z)] [(.ref a)])) rfl rfl (hb hby d_prog_114_method_3_23)
  refine Fin.by (fun tt_ kk_ => st108 tt_ kk_) ?_
  refine Fin.by (fun tt_ kk_ => XS.aloadN X108.here hx rfl (hb hby d_prog_114_method_3_26) rfl rfl kk_) ?_
  have F109 : Fld Z h106 a "com/example/colonnade/colonnade/WordBuffer" "chars" "[C" (.ref b) := (Fc.other W106 (Or.inl nab))
  obtain ⟨T110, X110, e110, st110⟩ := getF X108 hx hZ hown (host := "") (Or.inl (w_ hw 35 rfl)) Via.refl e108 F109 (g := (mkF m 27 #[.val (.ref a), .val (.int z)] [(.ref a), (.int 2)])) rfl rfl (hb hby d_prog_114_method_3_27)
  refine Fin.by (fun tt_ kk_ => st110 tt_ kk_) ?_
  obtain ⟨cl111, Ar111, q111, S111, N111, H111, G111⟩ := id V106
  refine Fin.by (fun tt_ kk_ => X110.arraylength hx (by rw [e110]; exact Ar111.1) (State.isArrayOf_alike hZ.alike Ar111.2.1) (g := (mkF m 30 #[.val (.ref a), .val (.int z)] [(.ref b), (.int 2)])) rfl rfl (hb hby d_prog_114_method_3_30) _ kk_) ?_
  rw [len_of S111 N111]
  show Fin _ _ _ _ _ _ _ (T110.setTop (mkF m 31 #[.val (.ref a), .val (.int z)] [(.int 3), (.int 2)]))
  refine Fin.by (fun tt_ kk_ => XS.icmpNo X110.here hx rfl (hb hby d_prog_114_method_3_31) rfl (flt (by decide : ¬ (3 : Int32) < (2 : Int32))).2.2.1 kk_) ?_
  refine Fin.by (fun tt_ kk_ => XS.aloadN X110.here hx rfl (hb hby d_prog_114_method_3_34) rfl rfl (XS.dup X110.here hx rfl (hb hby d_prog_114_method_3_35) rfl rfl kk_)) ?_
  obtain ⟨T112, X112, e112, st112⟩ := getF X110 hx hZ hown (host := "") (Or.inl (w_ hw 42 rfl)) Via.refl e110 F107 (g := (mkF m 36 #[.val (.ref a), .val (.int z)] [(.ref a), (.ref a)])) rfl rfl (hb hby d_prog_114_method_3_36)
  refine Fin.by (fun tt_ kk_ => st112 tt_ kk_) ?_
  refine Fin.by (fun tt_ kk_ => XS.iconst X112.here hx rfl (hb hby d_prog_114_method_3_39) (XS.iadd X112.here hx rfl (hb hby d_prog_114_method_3_40) rfl kk_)) ?_
  have E113 : Exa Z h106 a "com/example/colonnade/colonnade/WordBuffer" := (E0.wr W106)
  obtain ⟨T114, h114, X114, e114, W114, st114⟩ := putF X112 hx hZ hown (host := "") (Or.inl (w_ hw 42 rfl)) Via.refl e112 F107 E113 (Or.inl (w_ hw 43 rfl)) (w_ hw 29 rfl) (ty := .int) (by decide) rfl rfl (g := (mkF m 41 #[.val (.ref a), .val (.int z)] [(.int 3), (.ref a)])) rfl rfl (hb hby d_prog_114_method_3_41)
  refine Fin.by (fun tt_ kk_ => st114 tt_ kk_) ?_
  have N114_ := Fr.snoc X114 N106_ ga
  have kp115 : Keep h0 h106 [a, b] := (Keep.refl h0 [a, b]).wr W106 (Or.inl (List.mem_of_getElem? (i := 1) rfl))
  have kp116 : Keep h0 h114 [a, b] := kp115.wr W114 (Or.inl (List.mem_of_getElem? (i := 0) rfl))
  have E117 : Exa Z h114 a "com/example/colonnade/colonnade/WordBuffer" := (E113.wr W114)
  have F118 : Fld Z h114 a "com/example/colonnade/colonnade/WordBuffer" "chars" "[C" (.ref b) := (F109.other W114 (Or.inr (slot_ne (Or.inr (w_ hw 36 rfl)) (Or.inl (w_ hw 43 rfl)) (by decide) (t := (.array .char)) (t' := .int) (by decide) (by decide))))
  have A119 : Arv Z h114 b kk .char (3 : Int32) [(.int u0), (.int u1), (.int (nar .char z))] (.int (0 : Int32)) := (V106.other W114 (Ne.symm nab))
  show Fin _ _ _ _ _ _ _ (T114.setTop (mkF m 44 #[.val (.ref a), .val (.int z)] []))
  exact Fin.ret (v := none) X114 (fun _ => rfl) Bd.notSynchronized (by rw [e114]; exact ⟨rfl, N114_, kp116, E117, F118, (F107.same W114), A119⟩) (by decide) (by decide) (fun fs hr => X114.returnOut hx Bd.returns (hb hby d_prog_114_method_3_44) hr)
def Q_add3_3 (Z : State) (a : Addr) (b : Addr) (kk : ClassId) (z : Int32) (u0 : Int32) (u1 : Int32) (u2 : Int32) (h0 : Heap) (n0 : Nat) (vv_ : Option Value) (hh_ : Heap) (LL_ : List Loc) : Prop := vv_ = none ∧ Fr n0 LL_ ∧ Keep h0 hh_ [a, b] ∧ Exa Z hh_ a "com/example/colonnade/colonnade/WordBuffer" ∧ Fld Z hh_ a "com/example/colonnade/colonnade/WordBuffer" "chars" "[C" (.ref b) ∧ Fld Z hh_ a "com/example/colonnade/colonnade/WordBuffer" "length" "I" (.int (4 : Int32)) ∧ Arv Z hh_ b kk .char (3 : Int32) [(.int u0), (.int u1), (.int u2)] (.int (0 : Int32))
set_option maxRecDepth 65536 in
set_option maxHeartbeats 40000000 in
theorem rm_add3_3 (l : Launch) (Z : State) (a0 : Array Value) (hw : ∀ d ∈ tables_1, d.before a0 Z = true) (ws : List Jvm.Cond) (a : Addr) (b : Addr) (kk : ClassId) (z : Int32) (u0 : Int32) (u1 : Int32) (u2 : Int32) (h0 : Heap) (n0 : Nat) (Z0 : n0 ≤ h0.size) (E0 : Exa Z h0 a "com/example/colonnade/colonnade/WordBuffer") (Fc : Fld Z h0 a "com/example/colonnade/colonnade/WordBuffer" "chars" "[C" (.ref b)) (Fl : Fld Z h0 a "com/example/colonnade/colonnade/WordBuffer" "length" "I" (.int (3 : Int32))) (Ak : Arv Z h0 b kk .char (3 : Int32) [(.int u0), (.int u1), (.int u2)] (.int (0 : Int32))) (ga : n0 ≤ a) (gb : n0 ≤ b) (nab : a ≠ b) :
    MetFree l (⟨"com/example/colonnade/colonnade/WordBuffer", "add", "(C)V"⟩ : MethodName) (head1 (Jvm.Cond.code (⟨"com/example/colonnade/colonnade/WordBuffer", "add", "(C)V"⟩ : MethodName) prog_114_method_3_code 2 none :: ws) ({ frames := 0, cells := 0, slots := 0, locals := 0 } : Room)) (fun aa_ U => aa_ = #[(.ref a), (.int z)] ∧ Z.Warmed39 U.vm ∧ U.heap = h0) (fun _ _ _ _ _ => True) (fun _ U o U' => ∃ vv_ LL_, o = .returned vv_ ∧ Q_add3_3 Z a b kk z u0 u1 u2 h0 n0 vv_ U'.heap LL_ ∧ FrameEnd U o U' LL_ 0 0) := by
  refine MetFree.of_bodySF (plainFor_of_name pn_com_example_colonnade_colonnade_WordBuffer) hisR ?_
  intro p e s m args below meth c s₁ Bd hml0 hP hK
  obtain ⟨rfl, hZ, hh⟩ := hP
  have hx := Bd.exec
  have hby := Bd.bytes
  have hml : c.maxLocals = 2 := hml0
  have hown : s.vm.findClass "com/example/colonnade/colonnade/WordBuffer" = some m.cls := findClass_of_methodNamed Bd.named
  have hnm := (name_of_methodNamed Bd.named Bd.method).1
  have X0 : Stand p l e ({ frames := 0, cells := 0, slots := 0, locals := 0 } : Room) s m #[(.ref a), (.int z)] below meth c s₁ [] 0 0 := Stand.of_body Bd
  have e0 : s₁.heap = h0 := by rw [← hh, Bd.state]; rfl
  have N0 := Fr.nil n0
  have ef : entryFrame m #[(.ref a), (.int z)] 2 = mkF m 0 #[.val (.ref a), .val (.int z)] [] := by first | (simp [entryFrame, mkF, argsToLocals, Value.category]; done) | rfl
  refine Fin.start (Q := Q_add3_3 Z a b kk z u0 u1 u2 h0 n0) ef ?_
  refine Fin.by (fun tt_ kk_ => XS.aloadN X0.here hx rfl (hb hby d_prog_114_method_3_0) rfl rfl kk_) ?_
  obtain ⟨T101, X101, e101, st101⟩ := getF X0 hx hZ hown (host := "") (Or.inl (w_ hw 42 rfl)) Via.refl e0 Fl (g := (mkF m 1 #[.val (.ref a), .val (.int z)] [(.ref a)])) rfl rfl (hb hby d_prog_114_method_3_1)
  refine Fin.by (fun tt_ kk_ => st101 tt_ kk_) ?_
  refine Fin.by (fun tt_ kk_ => XS.aloadN X101.here hx rfl (hb hby d_prog_114_method_3_4) rfl rfl kk_) ?_
  obtain ⟨T102, X102, e102, st102⟩ := getF X101 hx hZ hown (host := "") (Or.inl (w_ hw 35 rfl)) Via.refl e101 Fc (g := (mkF m 5 #[.val (.ref a), .val (.int z)] [(.ref a), (.int 3)])) rfl rfl (hb hby d_prog_114_method_3_5)
  refine Fin.by (fun tt_ kk_ => st102 tt_ kk_) ?_
  obtain ⟨cl103, Ar103, q103, S103, N103, H103, G103⟩ := id Ak
  refine Fin.by (fun tt_ kk_ => X102.arraylength hx (by rw [e102]; exact Ar103.1) (State.isArrayOf_alike hZ.alike Ar103.2.1) (g := (mkF m 8 #[.val (.ref a), .val (.int z)] [(.ref b), (.int 3)])) rfl rfl (hb hby d_prog_114_method_3_8) _ kk_) ?_
  rw [len_of S103 N103]
  show Fin _ _ _ _ _ _ _ (T102.setTop (mkF m 9 #[.val (.ref a), .val (.int z)] [(.int 3), (.int 3)]))
  refine Fin.by (fun tt_ kk_ => XS.icmpYes X102.here hx rfl (pc0 := 9) (pc' := 22) rfl (hb hby d_prog_114_method_3_9) rfl (flt (by decide : ¬ (3 : Int32) < (3 : Int32))).2.1 (by decide) (by decide) kk_) ?_
  refine Fin.by (fun tt_ kk_ => XS.aloadN X102.here hx rfl (hb hby d_prog_114_method_3_22) rfl rfl kk_) ?_
  obtain ⟨T104, X104, e104, st104⟩ := getF X102 hx hZ hown (host := "") (Or.inl (w_ hw 42 rfl)) Via.refl e102 Fl (g := (mkF m 23 #[.val (.ref a), .val (.int z)] [(.ref a)])) rfl rfl (hb hby d_prog_114_method_3_23)
  refine Fin.by (fun tt_ kk_ => st104 tt_ kk_) ?_
  refine Fin.by (fun tt_ kk_ => XS.aloadN X104.here hx rfl (hb hby d_prog_114_method_3_26) rfl rfl kk_) ?_
  obtain ⟨T105, X105, e105, st105⟩ := getF X104 hx hZ hown (host := "") (Or.inl (w_ hw 35 rfl)) Via.refl e104 Fc (g := (mkF m 27 #[.val (.ref a), .val (.int z)] [(.ref a), (.int 3)])) rfl rfl (hb hby d_prog_114_method_3_27)
  refine Fin.by (fun tt_ kk_ => st105 tt_ kk_) ?_
  obtain ⟨cl106, Ar106, q106, S106, N106, H106, G106⟩ := id Ak
  refine Fin.by (fun tt_ kk_ => X105.arraylength hx (by rw [e105]; exact Ar106.1) (State.isArrayOf_alike hZ.alike Ar106.2.1) (g := (mkF m 30 #[.val (.ref a), .val (.int z)] [(.ref b), (.int 3)])) rfl rfl (hb hby d_prog_114_method_3_30) _ kk_) ?_
  rw [len_of S106 N106]
  show Fin _ _ _ _ _ _ _ (T105.setTop (mkF m 31 #[.val (.ref a), .val (.int z)] [(.int 3), (.int 3)]))
  refine Fin.by (fun tt_ kk_ => XS.icmpNo X105.here hx rfl (hb hby d_prog_114_method_3_31) rfl (flt (by decide : ¬ (3 : Int32) < (3 : Int32))).2.2.1 kk_) ?_
  refine Fin.by (fun tt_ kk_ => XS.aloadN X105.here hx rfl (hb hby d_prog_114_method_3_34) rfl rfl (XS.dup X105.here hx rfl (hb hby d_prog_114_method_3_35) rfl rfl kk_)) ?_
  obtain ⟨T107, X107, e107, st107⟩ := getF X105 hx hZ hown (host := "") (Or.inl (w_ hw 42 rfl)) Via.refl e105 Fl (g := (mkF m 36 #[.val (.ref a), .val (.int z)] [(.ref a), (.ref a)])) rfl rfl (hb hby d_prog_114_method_3_36)
  refine Fin.by (fun tt_ kk_ => st107 tt_ kk_) ?_
  refine Fin.by (fun tt_ kk_ => XS.iconst X107.here hx rfl (hb hby d_prog_114_method_3_39) (XS.iadd X107.here hx rfl (hb hby d_prog_114_method_3_40) rfl kk_)) ?_
  obtain ⟨T108, h108, X108, e108, W108, st108⟩ := putF X107 hx hZ hown (host := "") (Or.inl (w_ hw 42 rfl)) Via.refl e107 Fl E0 (Or.inl (w_ hw 43 rfl)) (w_ hw 29 rfl) (ty := .int) (by decide) rfl rfl (g := (mkF m 41 #[.val (.ref a), .val (.int z)] [(.int 4), (.ref a)])) rfl rfl (hb hby d_prog_114_method_3_41)
  refine Fin.by (fun tt_ kk_ => st108 tt_ kk_) ?_
  have N108_ := Fr.snoc X108 N0 ga
  have kp109 : Keep h0 h108 [a, b] := (Keep.refl h0 [a, b]).wr W108 (Or.inl (List.mem_of_getElem? (i := 0) rfl))
  have E110 : Exa Z h108 a "com/example/colonnade/colonnade/WordBuffer" := (E0.wr W108)
  have F111 : Fld Z h108 a "com/example/colonnade/colonnade/WordBuffer" "chars" "[C" (.ref b) := (Fc.other W108 (Or.inr (slot_ne (Or.inr (w_ hw 36 rfl)) (Or.inl (w_ hw 43 rfl)) (by decide) (t := (.array .char)) (t' := .int) (by decide) (by decide))))
  have A112 : Arv Z h108 b kk .char (3 : Int32) [(.int u0), (.int u1), (.int u2)] (.int (0 : Int32)) := (Ak.other W108 (Ne.symm nab))
  show Fin _ _ _ _ _ _ _ (T108.setTop (mkF m 44 #[.val (.ref a), .val (.int z)] []))
  exact Fin.ret (v := none) X108 (fun _ => rfl) Bd.notSynchronized (by rw [e108]; exact ⟨rfl, N108_, kp109, E110, F111, (Fl.same W108), A112⟩) (by decide) (by decide) (fun fs hr => X108.returnOut hx Bd.returns (hb hby d_prog_114_method_3_44) hr)
def Q_add3_4 (Z : State) (a : Addr) (b : Addr) (kk : ClassId) (z : Int32) (u0 : Int32) (u1 : Int32) (u2 : Int32) (h0 : Heap) (n0 : Nat) (vv_ : Option Value) (hh_ : Heap) (LL_ : List Loc) : Prop := vv_ = none ∧ Fr n0 LL_ ∧ Keep h0 hh_ [a, b] ∧ Exa Z hh_ a "com/example/colonnade/colonnade/WordBuffer" ∧ Fld Z hh_ a "com/example/colonnade/colonnade/WordBuffer" "chars" "[C" (.ref b) ∧ Fld Z hh_ a "com/example/colonnade/colonnade/WordBuffer" "length" "I" (.int (4 : Int32)) ∧ Arv Z hh_ b kk .char (3 : Int32) [(.int u0), (.int u1), (.int u2)] (.int (0 : Int32))
set_option maxRecDepth 65536 in
set_option maxHeartbeats 40000000 in
theorem rm_add3_4 (l : Launch) (Z : State) (a0 : Array Value) (hw : ∀ d ∈ tables_1, d.before a0 Z = true) (ws : List Jvm.Cond) (a : Addr) (b : Addr) (kk : ClassId) (z : Int32) (u0 : Int32) (u1 : Int32) (u2 : Int32) (h0 : Heap) (n0 : Nat) (Z0 : n0 ≤ h0.size) (E0 : Exa Z h0 a "com/example/colonnade/colonnade/WordBuffer") (Fc : Fld Z h0 a "com/example/colonnade/colonnade/WordBuffer" "chars" "[C" (.ref b)) (Fl : Fld Z h0 a "com/example/colonnade/colonnade/WordBuffer" "length" "I" (.int (4 : Int32))) (Ak : Arv Z h0 b kk .char (3 : Int32) [(.int u0), (.int u1), (.int u2)] (.int (0 : Int32))) (ga : n0 ≤ a) (gb : n0 ≤ b) (nab : a ≠ b) :
    MetFree l (⟨"com/example/colonnade/colonnade/WordBuffer", "add", "(C)V"⟩ : MethodName) (head1 (Jvm.Cond.code (⟨"com/example/colonnade/colonnade/WordBuffer", "add", "(C)V"⟩ : MethodName) prog_114_method_3_code 2 none :: ws) ({ frames := 0, cells := 0, slots := 0, locals := 0 } : Room)) (fun aa_ U => aa_ = #[(.ref a), (.int z)] ∧ Z.Warmed39 U.vm ∧ U.heap = h0) (fun _ _ _ _ _ => True) (fun _ U o U' => ∃ vv_ LL_, o = .returned vv_ ∧ Q_add3_4 Z a b kk z u0 u1 u2 h0 n0 vv_ U'.heap LL_ ∧ FrameEnd U o U' LL_ 0 0) := by
  refine MetFree.of_bodySF (plainFor_of_name pn_com_example_colonnade_colonnade_WordBuffer) hisR ?_
  intro p e s m args below meth c s₁ Bd hml0 hP hK
  obtain ⟨rfl, hZ, hh⟩ := hP
  have hx := Bd.exec
  have hby := Bd.bytes
  have hml : c.maxLocals = 2 := hml0
  have hown : s.vm.findClass "com/example/colonnade/colonnade/WordBuffer" = some m.cls := findClass_of_methodNamed Bd.named
  have hnm := (name_of_methodNamed Bd.named Bd.method).1
  have X0 : Stand p l e ({ frames := 0, cells := 0, slots := 0, locals := 0 } : Room) s m #[(.ref a), (.int z)] below meth c s₁ [] 0 0 := Stand.of_body Bd
  have e0 : s₁.heap = h0 := by rw [← hh, Bd.state]; rfl
  have N0 := Fr.nil n0
  have ef : entryFrame m #[(.ref a), (.int z)] 2 = mkF m 0 #[.val (.ref a), .val (.int z)] [] := by first | (simp [entryFrame, mkF, argsToLocals, Value.category]; done) | rfl
  refine Fin.start (Q := Q_add3_4 Z a b kk z u0 u1 u2 h0 n0) ef ?_
  refine Fin.by (fun tt_ kk_ => XS.aloadN X0.here hx rfl (hb hby d_prog_114_method_3_0) rfl rfl kk_) ?_
  obtain ⟨T101, X101, e101, st101⟩ := getF X0 hx hZ hown (host := "") (Or.inl (w_ hw 42 rfl)) Via.refl e0 Fl (g := (mkF m 1 #[.val (.ref a), .val (.int z)] [(.ref a)])) rfl rfl (hb hby d_prog_114_method_3_1)
  refine Fin.by (fun tt_ kk_ => st101 tt_ kk_) ?_
  refine Fin.by (fun tt_ kk_ => XS.aloadN X101.here hx rfl (hb hby d_prog_114_method_3_4) rfl rfl kk_) ?_
  obtain ⟨T102, X102, e102, st102⟩ := getF X101 hx hZ hown (host := "") (Or.inl (w_ hw 35 rfl)) Via.refl e101 Fc (g := (mkF m 5 #[.val (.ref a), .val (.int z)] [(.ref a), (.int 4)])) rfl rfl (hb hby d_prog_114_method_3_5)
  refine Fin.by (fun tt_ kk_ => st102 tt_ kk_) ?_
  obtain ⟨cl103, Ar103, q103, S103, N103, H103, G103⟩ := id Ak
  refine Fin.by (fun tt_ kk_ => X102.arraylength hx (by rw [e102]; exact Ar103.1) (State.isArrayOf_alike hZ.alike Ar103.2.1) (g := (mkF m 8 #[.val (.ref a), .val (.int z)] [(.ref b), (.int 4)])) rfl rfl (hb hby d_prog_114_method_3_8) _ kk_) ?_
  rw [len_of S103 N103]
  show Fin _ _ _ _ _ _ _ (T102.setTop (mkF m 9 #[.val (.ref a), .val (.int z)] [(.int 3), (.int 4)]))
  refine Fin.by (fun tt_ kk_ => XS.icmpYes X102.here hx rfl (pc0 := 9) (pc' := 22) rfl (hb hby d_prog_114_method_3_9) rfl (flt (by decide : ¬ (4 : Int32) < (3 : Int32))).2.1 (by decide) (by decide) kk_) ?_
  refine Fin.by (fun tt_ kk_ => XS.aloadN X102.here hx rfl (hb hby d_prog_114_method_3_22) rfl rfl kk_) ?_
  obtain ⟨T104, X104, e104, st104⟩ := getF X102 hx hZ hown (host := "") (Or.inl (w_ hw 42 rfl)) Via.refl e102 Fl (g := (mkF m 23 #[.val (.ref a), .val (.int z)] [(.ref a)])) rfl rfl (hb hby d_prog_114_method_3_23)
  refine Fin.by (fun tt_ kk_ => st104 tt_ kk_) ?_
  refine Fin.by (fun tt_ kk_ => XS.aloadN X104.here hx rfl (hb hby d_prog_114_method_3_26) rfl rfl kk_) ?_
  obtain ⟨T105, X105, e105, st105⟩ := getF X104 hx hZ hown (host := "") (Or.inl (w_ hw 35 rfl)) Via.refl e104 Fc (g := (mkF m 27 #[.val (.ref a), .val (.int z)] [(.ref a), (.int 4)])) rfl rfl (hb hby d_prog_114_method_3_27)
  refine Fin.by (fun tt_ kk_ => st105 tt_ kk_) ?_
  obtain ⟨cl106, Ar106, q106, S106, N106, H106, G106⟩ := id Ak
  refine Fin.by (fun tt_ kk_ => X105.arraylength hx (by rw [e105]; exact Ar106.1) (State.isArrayOf_alike hZ.alike Ar106.2.1) (g := (mkF m 30 #[.val (.ref a), .val (.int z)] [(.ref b), (.int 4)])) rfl rfl (hb hby d_prog_114_method_3_30) _ kk_) ?_
  rw [len_of S106 N106]
  show Fin _ _ _ _ _ _ _ (T105.setTop (mkF m 31 #[.val (.ref a), .val (.int z)] [(.int 3), (.int 4)]))
  refine Fin.by (fun tt_ kk_ => XS.icmpYes X105.here hx rfl (pc0 := 31) (pc' := 44) rfl (hb hby d_prog_114_method_3_31) rfl (tlt (by decide : (3 : Int32) < (4 : Int32))).2.2.1 (by decide) (by decide) kk_) ?_
  show Fin _ _ _ _ _ _ _ (T105.setTop (mkF m 44 #[.val (.ref a), .val (.int z)] []))
  exact Fin.ret (v := none) X105 (fun _ => rfl) Bd.notSynchronized (by rw [e105]; exact ⟨rfl, N0, (Keep.refl h0 [a, b]), E0, Fc, Fl, Ak⟩) (by decide) (by decide) (fun fs hr => X105.returnOut hx Bd.returns (hb hby d_prog_114_method_3_44) hr)
abbrev y_18 : MethodName := (⟨"java/lang/String", "length", "()I"⟩ : MethodName)
theorem d_prog_114_method_7_0 : decode prog_114_method_7_code 0 = .ok (.aload_n 0, 1) := by decide +kernel
theorem d_prog_114_method_7_1 : decode prog_114_method_7_code 1 = .ok (.getfield 13, 3) := by decide +kernel
theorem d_prog_114_method_7_4 : decode prog_114_method_7_code 4 = .ok (.aload_n 1, 1) := by decide +kernel
theorem pd_376 : parseMethodDescriptor "()I" = some ⟨[], some .int⟩ := by decide +kernel
theorem d_prog_114_method_7_5 : decode prog_114_method_7_code 5 = .ok (.invokevirtual 21, 3) := by decide +kernel
theorem d_prog_114_method_7_8 : decode prog_114_method_7_code 8 = .ok (.if_icmp .eq 5, 3) := by decide +kernel
theorem d_prog_114_method_7_11 : decode prog_114_method_7_code 11 = .ok (.iconst 0, 1) := by decide +kernel
theorem d_prog_114_method_7_12 : decode prog_114_method_7_code 12 = .ok (.ireturn, 1) := by decide +kernel
def Q_mne (Z : State) (a : Addr) (L : Int32) (x : Addr) (t : Addr) (kb : ClassId) (N2 : Int32) (vs : List Value) (cd : Int32) (cs : List Int32) (G1 : Int32) (G9 : Value) (h0 : Heap) (n0 : Nat) (vv_ : Option Value) (hh_ : Heap) (LL_ : List Loc) : Prop := vv_ = some (.int (nar .boolean (0 : Int32))) ∧ Fr n0 LL_ ∧ hh_ = h0
set_option maxRecDepth 65536 in
set_option maxHeartbeats 40000000 in
theorem rm_mne (l : Launch) (Z : State) (a0 : Array Value) (hw : ∀ d ∈ tables_1, d.before a0 Z = true) (ws : List Jvm.Cond) (a : Addr) (L : Int32) (x : Addr) (t : Addr) (kb : ClassId) (N2 : Int32) (vs : List Value) (cd : Int32) (cs : List Int32) (G1 : Int32) (G9 : Value) (h0 : Heap) (n0 : Nat) (Z0 : n0 ≤ h0.size) (hne : ¬ L = Int32.ofNat cs.length) (hc : StrChars.Road.CodA cs cd N2 vs) (hb3 : ∀ c ∈ cs, ¬ c < 0 ∧ ¬ (65535 : Int32) < c) (l2 : List.length cs ≤ 4000) (E0 : Exa Z h0 a "com/example/colonnade/colonnade/WordBuffer") (Fl : Fld Z h0 a "com/example/colonnade/colonnade/WordBuffer" "length" "I" (.int L)) (E1 : Exa Z h0 x "java/lang/String") (F0 : Fld Z h0 x "java/lang/String" "value" "[B" (.ref t)) (F1 : Fld Z h0 x "java/lang/String" "coder" "B" (.int cd)) (A0 : Arv Z h0 t kb .byte N2 vs (.int 0)) (S1 : Sta Z Z.heap "java/lang/String" "COMPACT_STRINGS" "Z" (.int G1)) (P1 : ¬ G1 = 0) (S6 : Sta Z Z.heap "java/lang/StringUTF16" "$assertionsDisabled" "Z" (.int (1 : Int32))) (S7 : Sta Z Z.heap "java/lang/StringUTF16" "HI_BYTE_SHIFT" "I" (.int (0 : Int32))) (S8 : Sta Z Z.heap "java/lang/StringUTF16" "LO_BYTE_SHIFT" "I" (.int (8 : Int32))) (S9 : Sta Z Z.heap "jdk/internal/util/Preconditions" "SIOOBE_FORMATTER" "Ljava/util/function/BiFunction;" G9) (r9 : G9.isRef = true) (OL : Old Z n0 h0) :
    MetFree l (⟨"com/example/colonnade/colonnade/WordBuffer", "matches", "(Ljava/lang/String;Z)Z"⟩ : MethodName) (head1 (Jvm.Cond.code (⟨"com/example/colonnade/colonnade/WordBuffer", "matches", "(Ljava/lang/String;Z)Z"⟩ : MethodName) prog_114_method_7_code 6 (some .boolean) :: ws) ({ frames := 2, cells := 0, slots := 0, locals := 26 } : Room)) (fun aa_ U => aa_ = #[(.ref a), (.ref x), (.int (0 : Int32))] ∧ Z.Warmed39 U.vm ∧ U.heap = h0) (fun _ _ _ _ _ => True) (fun _ U o U' => ∃ vv_ LL_, o = .returned vv_ ∧ Q_mne Z a L x t kb N2 vs cd cs G1 G9 h0 n0 vv_ U'.heap LL_ ∧ FrameEnd U o U' LL_ 0 0) := by
  refine MetFree.of_bodySF (plainFor_of_name pn_com_example_colonnade_colonnade_WordBuffer) hisR ?_
  intro p e s m args below meth c s₁ Bd hml0 hP hK
  obtain ⟨rfl, hZ, hh⟩ := hP
  have hx := Bd.exec
  have hby := Bd.bytes
  have hml : c.maxLocals = 6 := hml0
  have hown : s.vm.findClass "com/example/colonnade/colonnade/WordBuffer" = some m.cls := findClass_of_methodNamed Bd.named
  have hnm := (name_of_methodNamed Bd.named Bd.method).1
  have X0 : Stand p l e ({ frames := 2, cells := 0, slots := 0, locals := 26 } : Room) s m #[(.ref a), (.ref x), (.int (0 : Int32))] below meth c s₁ [] 0 0 := Stand.of_body Bd
  have e0 : s₁.heap = h0 := by rw [← hh, Bd.state]; rfl
  have N0 := Fr.nil n0
  have ef : entryFrame m #[(.ref a), (.ref x), (.int (0 : Int32))] 6 = mkF m 0 #[.val (.ref a), .val (.ref x), .val (.int (0 : Int32)), .unset, .unset, .unset] [] := by first | (simp [entryFrame, mkF, argsToLocals, Value.category]; done) | rfl
  refine Fin.start (Q := Q_mne Z a L x t kb N2 vs cd cs G1 G9 h0 n0) ef ?_
  refine Fin.by (fun tt_ kk_ => XS.aloadN X0.here hx rfl (hb hby d_prog_114_method_7_0) rfl rfl kk_) ?_
  obtain ⟨T101, X101, e101, st101⟩ := getF X0 hx hZ hown (host := "") (Or.inl (w_ hw 42 rfl)) Via.refl e0 Fl (g := (mkF m 1 #[.val (.ref a), .val (.ref x), .val (.int 0), .unset, .unset, .unset] [(.ref a)])) rfl rfl (hb hby d_prog_114_method_7_1)
  refine Fin.by (fun tt_ kk_ => st101 tt_ kk_) ?_
  refine Fin.by (fun tt_ kk_ => XS.aloadN X101.here hx rfl (hb hby d_prog_114_method_7_4) rfl rfl kk_) ?_
  obtain ⟨cq102, kq102, qa102, qb102, qc102⟩ := isOf hZ e101 E1
  obtain ⟨v102, _, ⟨T102, L102, k102, n102⟩, -, X102, ⟨Lc102, hQ102, l102, y102, z102⟩, st102⟩ := X101.virtualBack hx (y := y_18) (z := y_18) hown (mvT hZ (w_ hw 58 rfl)) (mvT hZ (w_ hw 59 rfl)) (notFace_of_selects (args := #[]) (mvT hZ (w_ hw 61 rfl))) (mvT hZ (w_ hw 61 rfl)) (mvT hZ (w_ hw 60 rfl)) (by decide) (backOf (W := 1) (rm_sle l Z a0 hw [] x t kb N2 (vs : List Value) cs cd G1 h0 n0 Z0 hc l2 E1 F0 F1 A0 S1 P1 OL) hZ (w_ hw 62 rfl) (w_ hw 8 rfl) (by decide) (by decide)) qa102 qc102 (g := (mkF m 5 #[.val (.ref a), .val (.ref x), .val (.int 0), .unset, .unset, .unset] [(.ref x), (.int L)])) rfl (by rw [hml]; rfl) (Steps.refl _) (argsL := []) (rest := [(.int L)]) (lenOf pd_376 rfl) rfl (by show 2 * 0 + _ ≤ _; exact Nat.le_of_eq rfl) (hb hby d_prog_114_method_7_5) (fun _ _ => ⟨rfl, e101, (by decide : 0 + 0 ≤ _), (by decide : 0 + 0 ≤ _)⟩)
  dsimp only [Pt.U, Pt.locs, Pt.cells, Pt.slots] at X102 l102 y102 z102 st102 hQ102
  subst l102 y102 z102
  obtain ⟨rfl, Nq102, e102_⟩ := hQ102
  have N102_ := Fr.app N0 Nq102
  refine Fin.byS st102 ?_
  have e102 := e102_
  show Fin _ _ _ _ _ _ _ (T102.setTop (mkF m 8 #[.val (.ref a), .val (.ref x), .val (.int 0), .unset, .unset, .unset] [(.int (Int32.ofNat cs.length)), (.int L)]))
  refine Fin.by (fun tt_ kk_ => XS.icmpNo X102.here hx rfl (hb hby d_prog_114_method_7_8) rfl (feq (hne : ¬ L = (Int32.ofNat cs.length))).1 kk_) ?_
  refine Fin.by (fun tt_ kk_ => XS.iconst X102.here hx rfl (hb hby d_prog_114_method_7_11) kk_) ?_
  show Fin _ _ _ _ _ _ _ (T102.setTop (mkF m 12 #[.val (.ref a), .val (.ref x), .val (.int 0), .unset, .unset, .unset] [(.int 0)]))
  exact Fin.ret (v := some (.int (nar .boolean (0 : Int32)))) X102 (fun h => by rw [Bd.returns] at h; cases h) Bd.notSynchronized (by rw [e102]; exact ⟨rfl, N102_, rfl⟩) (by decide) (by decide) (fun fs hr => retN X102 hx (t := .boolean) Bd.returns (by simp) (hb hby d_prog_114_method_7_12) hr)
abbrev y_19 : MethodName := (⟨"com/example/colonnade/colonnade/WordBuffer", "matches", "(Ljava/lang/String;Z)Z"⟩ : MethodName)
abbrev y_20 : MethodName := (⟨"com/example/colonnade/colonnade/WordBuffer", "isEmpty", "()Z"⟩ : MethodName)
theorem d_prog_114_method_6_0 : decode prog_114_method_6_code 0 = .ok (.aload_n 0, 1) := by decide +kernel
theorem d_prog_114_method_6_1 : decode prog_114_method_6_code 1 = .ok (.aload_n 1, 1) := by decide +kernel
theorem d_prog_114_method_6_2 : decode prog_114_method_6_code 2 = .ok (.iconst 0, 1) := by decide +kernel
theorem pd_384 : parseMethodDescriptor "(Ljava/lang/String;Z)Z" = some ⟨[(.object "java/lang/String"), .boolean], some .boolean⟩ := by decide +kernel
theorem d_prog_114_method_6_3 : decode prog_114_method_6_code 3 = .ok (.invokevirtual 17, 3) := by decide +kernel
theorem d_prog_114_method_6_6 : decode prog_114_method_6_code 6 = .ok (.ireturn, 1) := by decide +kernel
def Q_ine (Z : State) (a : Addr) (L : Int32) (x : Addr) (t : Addr) (kb : ClassId) (N2 : Int32) (vs : List Value) (cd : Int32) (cs : List Int32) (G1 : Int32) (G9 : Value) (h0 : Heap) (n0 : Nat) (vv_ : Option Value) (hh_ : Heap) (LL_ : List Loc) : Prop := vv_ = some (.int (nar .boolean (nar .boolean (0 : Int32)))) ∧ Fr n0 LL_ ∧ hh_ = h0
set_option maxRecDepth 65536 in
set_option maxHeartbeats 40000000 in
theorem rm_ine (l : Launch) (Z : State) (a0 : Array Value) (hw : ∀ d ∈ tables_1, d.before a0 Z = true) (ws : List Jvm.Cond) (a : Addr) (L : Int32) (x : Addr) (t : Addr) (kb : ClassId) (N2 : Int32) (vs : List Value) (cd : Int32) (cs : List Int32) (G1 : Int32) (G9 : Value) (h0 : Heap) (n0 : Nat) (Z0 : n0 ≤ h0.size) (hne : ¬ L = Int32.ofNat cs.length) (hc : StrChars.Road.CodA cs cd N2 vs) (hb3 : ∀ c ∈ cs, ¬ c < 0 ∧ ¬ (65535 : Int32) < c) (l2 : List.length cs ≤ 4000) (E0 : Exa Z h0 a "com/example/colonnade/colonnade/WordBuffer") (Fl : Fld Z h0 a "com/example/colonnade/colonnade/WordBuffer" "length" "I" (.int L)) (E1 : Exa Z h0 x "java/lang/String") (F0 : Fld Z h0 x "java/lang/String" "value" "[B" (.ref t)) (F1 : Fld Z h0 x "java/lang/String" "coder" "B" (.int cd)) (A0 : Arv Z h0 t kb .byte N2 vs (.int 0)) (S1 : Sta Z Z.heap "java/lang/String" "COMPACT_STRINGS" "Z" (.int G1)) (P1 : ¬ G1 = 0) (S6 : Sta Z Z.heap "java/lang/StringUTF16" "$assertionsDisabled" "Z" (.int (1 : Int32))) (S7 : Sta Z Z.heap "java/lang/StringUTF16" "HI_BYTE_SHIFT" "I" (.int (0 : Int32))) (S8 : Sta Z Z.heap "java/lang/StringUTF16" "LO_BYTE_SHIFT" "I" (.int (8 : Int32))) (S9 : Sta Z Z.heap "jdk/internal/util/Preconditions" "SIOOBE_FORMATTER" "Ljava/util/function/BiFunction;" G9) (r9 : G9.isRef = true) (OL : Old Z n0 h0) :
    MetFree l (⟨"com/example/colonnade/colonnade/WordBuffer", "isExactly", "(Ljava/lang/String;)Z"⟩ : MethodName) (head1 (Jvm.Cond.code (⟨"com/example/colonnade/colonnade/WordBuffer", "isExactly", "(Ljava/lang/String;)Z"⟩ : MethodName) prog_114_method_6_code 2 (some .boolean) :: ws) ({ frames := 3, cells := 0, slots := 0, locals := 43 } : Room)) (fun aa_ U => aa_ = #[(.ref a), (.ref x)] ∧ Z.Warmed39 U.vm ∧ U.heap = h0) (fun _ _ _ _ _ => True) (fun _ U o U' => ∃ vv_ LL_, o = .returned vv_ ∧ Q_ine Z a L x t kb N2 vs cd cs G1 G9 h0 n0 vv_ U'.heap LL_ ∧ FrameEnd U o U' LL_ 0 0) := by
  refine MetFree.of_bodySF (plainFor_of_name pn_com_example_colonnade_colonnade_WordBuffer) hisR ?_
  intro p e s m args below meth c s₁ Bd hml0 hP hK
  obtain ⟨rfl, hZ, hh⟩ := hP
  have hx := Bd.exec
  have hby := Bd.bytes
  have hml : c.maxLocals = 2 := hml0
  have hown : s.vm.findClass "com/example/colonnade/colonnade/WordBuffer" = some m.cls := findClass_of_methodNamed Bd.named
  have hnm := (name_of_methodNamed Bd.named Bd.method).1
  have X0 : Stand p l e ({ frames := 3, cells := 0, slots := 0, locals := 43 } : Room) s m #[(.ref a), (.ref x)] below meth c s₁ [] 0 0 := Stand.of_body Bd
  have e0 : s₁.heap = h0 := by rw [← hh, Bd.state]; rfl
  have N0 := Fr.nil n0
  have ef : entryFrame m #[(.ref a), (.ref x)] 2 = mkF m 0 #[.val (.ref a), .val (.ref x)] [] := by first | (simp [entryFrame, mkF, argsToLocals, Value.category]; done) | rfl
  refine Fin.start (Q := Q_ine Z a L x t kb N2 vs cd cs G1 G9 h0 n0) ef ?_
  refine Fin.by (fun tt_ kk_ => XS.aloadN X0.here hx rfl (hb hby d_prog_114_method_6_0) rfl rfl (XS.aloadN X0.here hx rfl (hb hby d_prog_114_method_6_1) rfl rfl (XS.iconst X0.here hx rfl (hb hby d_prog_114_method_6_2) kk_))) ?_
  obtain ⟨cq101, qa101, qb101⟩ := E0.cell
  obtain ⟨v101, _, ⟨T101, L101, k101, n101⟩, -, X101, ⟨Lc101, hQ101, l101, y101, z101⟩, st101⟩ := X0.privateBack hx (y := y_19) hown (mvT hZ (w_ hw 54 rfl)) (mvT hZ (w_ hw 55 rfl)) (own_selpriv (z := y_20) (y := y_19) (mvT hZ (w_ hw 40 rfl)) rfl (Cond.privateMethod_at (mvP hZ (w_ hw 56 rfl) (args := #[]))) (mvT hZ (w_ hw 55 rfl)) (by decide)) (Cond.privateMethod_at (mvP hZ (w_ hw 56 rfl) (args := #[]))) (mvT hZ (w_ hw 57 rfl)) (by decide) (backOf (W := 0) (rm_mne l Z a0 hw [] a L x t kb N2 (vs : List Value) cd cs G1 G9 h0 n0 Z0 hne hc hb3 l2 E0 Fl E1 F0 F1 A0 S1 P1 S6 S7 S8 S9 r9 OL) hZ (w_ hw 57 rfl) (w_ hw 30 rfl) (by decide) (by decide)) (g := (mkF m 3 #[.val (.ref a), .val (.ref x)] [(.int 0), (.ref x), (.ref a)])) rfl (by rw [hml]; rfl) (Steps.refl _) (a := a) (by rw [e0]; exact qa101) qb101 (argsL := [(.ref x), (.int 0)]) (rest := []) (lenOf pd_384 rfl) rfl (by show 2 * 0 + _ ≤ _; exact Nat.le_of_eq rfl) (hb hby d_prog_114_method_6_3) (fun _ _ => ⟨rfl, e0, (by decide : 0 + 0 ≤ _), (by decide : 0 + 0 ≤ _)⟩)
  dsimp only [Pt.U, Pt.locs, Pt.cells, Pt.slots] at X101 l101 y101 z101 st101 hQ101
  subst l101 y101 z101
  obtain ⟨rfl, Nq101, e101_⟩ := hQ101
  have N101_ := Fr.app N0 Nq101
  refine Fin.byS st101 ?_
  have e101 := e101_
  show Fin _ _ _ _ _ _ _ (T101.setTop (mkF m 6 #[.val (.ref a), .val (.ref x)] [(.int (nar .boolean 0))]))
  exact Fin.ret (v := some (.int (nar .boolean (nar .boolean (0 : Int32))))) X101 (fun h => by rw [Bd.returns] at h; cases h) Bd.notSynchronized (by rw [e101]; exact ⟨rfl, N101_, rfl⟩) (by decide) (by decide) (fun fs hr => retN X101 hx (t := .boolean) Bd.returns (by simp) (hb hby d_prog_114_method_6_6) hr)
theorem d_prog_114_method_7_13 : decode prog_114_method_7_code 13 = .ok (.iconst 0, 1) := by decide +kernel
theorem d_prog_114_method_7_14 : decode prog_114_method_7_code 14 = .ok (.istore_n 3, 1) := by decide +kernel
theorem d_prog_114_method_7_15 : decode prog_114_method_7_code 15 = .ok (.iload_n 3, 1) := by decide +kernel
theorem d_prog_114_method_7_16 : decode prog_114_method_7_code 16 = .ok (.aload_n 0, 1) := by decide +kernel
theorem d_prog_114_method_7_17 : decode prog_114_method_7_code 17 = .ok (.getfield 13, 3) := by decide +kernel
theorem d_prog_114_method_7_20 : decode prog_114_method_7_code 20 = .ok (.if_icmp .ge 63, 3) := by decide +kernel
theorem d_prog_114_method_7_83 : decode prog_114_method_7_code 83 = .ok (.iconst 1, 1) := by decide +kernel
theorem d_prog_114_method_7_84 : decode prog_114_method_7_code 84 = .ok (.ireturn, 1) := by decide +kernel
def Q_mat0 (Z : State) (a : Addr) (b : Addr) (kk : ClassId) (KN : Int32) (v2 : List Value) (x : Addr) (t : Addr) (kb : ClassId) (N2 : Int32) (vs : List Value) (cd : Int32) (G1 : Int32) (G9 : Value) (h0 : Heap) (n0 : Nat) (vv_ : Option Value) (hh_ : Heap) (LL_ : List Loc) : Prop := vv_ = some (.int (nar .boolean (1 : Int32))) ∧ Fr n0 LL_ ∧ hh_ = h0
set_option maxRecDepth 65536 in
set_option maxHeartbeats 40000000 in
theorem rm_mat0 (l : Launch) (Z : State) (a0 : Array Value) (hw : ∀ d ∈ tables_1, d.before a0 Z = true) (ws : List Jvm.Cond) (a : Addr) (b : Addr) (kk : ClassId) (KN : Int32) (v2 : List Value) (x : Addr) (t : Addr) (kb : ClassId) (N2 : Int32) (vs : List Value) (cd : Int32) (G1 : Int32) (G9 : Value) (h0 : Heap) (n0 : Nat) (Z0 : n0 ≤ h0.size) (hc : StrChars.Road.CodA ([] : List Int32) cd N2 vs) (hb3 : ∀ c ∈ ([] : List Int32), ¬ c < 0 ∧ ¬ (65535 : Int32) < c) (l2 : List.length ([] : List Int32) ≤ 4000) (hkn : 0 ≤ KN.toNatClampNeg) (E0 : Exa Z h0 a "com/example/colonnade/colonnade/WordBuffer") (Fc : Fld Z h0 a "com/example/colonnade/colonnade/WordBuffer" "chars" "[C" (.ref b)) (Fl : Fld Z h0 a "com/example/colonnade/colonnade/WordBuffer" "length" "I" (.int (0 : Int32))) (Ak : Arv Z h0 b kk .char KN v2 (.int (0 : Int32))) (E1 : Exa Z h0 x "java/lang/String") (F0 : Fld Z h0 x "java/lang/String" "value" "[B" (.ref t)) (F1 : Fld Z h0 x "java/lang/String" "coder" "B" (.int cd)) (A0 : Arv Z h0 t kb .byte N2 vs (.int 0)) (S1 : Sta Z Z.heap "java/lang/String" "COMPACT_STRINGS" "Z" (.int G1)) (P1 : ¬ G1 = 0) (S6 : Sta Z Z.heap "java/lang/StringUTF16" "$assertionsDisabled" "Z" (.int (1 : Int32))) (S7 : Sta Z Z.heap "java/lang/StringUTF16" "HI_BYTE_SHIFT" "I" (.int (0 : Int32))) (S8 : Sta Z Z.heap "java/lang/StringUTF16" "LO_BYTE_SHIFT" "I" (.int (8 : Int32))) (S9 : Sta Z Z.heap "jdk/internal/util/Preconditions" "SIOOBE_FORMATTER" "Ljava/util/function/BiFunction;" G9) (r9 : G9.isRef = true) (OL : Old Z n0 h0) :
    MetFree l (⟨"com/example/colonnade/colonnade/WordBuffer", "matches", "(Ljava/lang/String;Z)Z"⟩ : MethodName) (head1 (Jvm.Cond.code (⟨"com/example/colonnade/colonnade/WordBuffer", "matches", "(Ljava/lang/String;Z)Z"⟩ : MethodName) prog_114_method_7_code 6 (some .boolean) :: ws) ({ frames := 2, cells := 0, slots := 0, locals := 26 } : Room)) (fun aa_ U => aa_ = #[(.ref a), (.ref x), (.int (0 : Int32))] ∧ Z.Warmed39 U.vm ∧ U.heap = h0) (fun _ _ _ _ _ => True) (fun _ U o U' => ∃ vv_ LL_, o = .returned vv_ ∧ Q_mat0 Z a b kk KN v2 x t kb N2 vs cd G1 G9 h0 n0 vv_ U'.heap LL_ ∧ FrameEnd U o U' LL_ 0 0) := by
  refine MetFree.of_bodySF (plainFor_of_name pn_com_example_colonnade_colonnade_WordBuffer) hisR ?_
  intro p e s m args below meth c s₁ Bd hml0 hP hK
  obtain ⟨rfl, hZ, hh⟩ := hP
  have hx := Bd.exec
  have hby := Bd.bytes
  have hml : c.maxLocals = 6 := hml0
  have hown : s.vm.findClass "com/example/colonnade/colonnade/WordBuffer" = some m.cls := findClass_of_methodNamed Bd.named
  have hnm := (name_of_methodNamed Bd.named Bd.method).1
  have X0 : Stand p l e ({ frames := 2, cells := 0, slots := 0, locals := 26 } : Room) s m #[(.ref a), (.ref x), (.int (0 : Int32))] below meth c s₁ [] 0 0 := Stand.of_body Bd
  have e0 : s₁.heap = h0 := by rw [← hh, Bd.state]; rfl
  have N0 := Fr.nil n0
  have ef : entryFrame m #[(.ref a), (.ref x), (.int (0 : Int32))] 6 = mkF m 0 #[.val (.ref a), .val (.ref x), .val (.int (0 : Int32)), .unset, .unset, .unset] [] := by first | (simp [entryFrame, mkF, argsToLocals, Value.category]; done) | rfl
  refine Fin.start (Q := Q_mat0 Z a b kk KN v2 x t kb N2 vs cd G1 G9 h0 n0) ef ?_
  refine Fin.by (fun tt_ kk_ => XS.aloadN X0.here hx rfl (hb hby d_prog_114_method_7_0) rfl rfl kk_) ?_
  obtain ⟨T101, X101, e101, st101⟩ := getF X0 hx hZ hown (host := "") (Or.inl (w_ hw 42 rfl)) Via.refl e0 Fl (g := (mkF m 1 #[.val (.ref a), .val (.ref x), .val (.int 0), .unset, .unset, .unset] [(.ref a)])) rfl rfl (hb hby d_prog_114_method_7_1)
  refine Fin.by (fun tt_ kk_ => st101 tt_ kk_) ?_
  refine Fin.by (fun tt_ kk_ => XS.aloadN X101.here hx rfl (hb hby d_prog_114_method_7_4) rfl rfl kk_) ?_
  obtain ⟨cq102, kq102, qa102, qb102, qc102⟩ := isOf hZ e101 E1
  obtain ⟨v102, _, ⟨T102, L102, k102, n102⟩, -, X102, ⟨Lc102, hQ102, l102, y102, z102⟩, st102⟩ := X101.virtualBack hx (y := y_18) (z := y_18) hown (mvT hZ (w_ hw 58 rfl)) (mvT hZ (w_ hw 59 rfl)) (notFace_of_selects (args := #[]) (mvT hZ (w_ hw 61 rfl))) (mvT hZ (w_ hw 61 rfl)) (mvT hZ (w_ hw 60 rfl)) (by decide) (backOf (W := 1) (rm_sle l Z a0 hw [] x t kb N2 (vs : List Value) ([] : List Int32) cd G1 h0 n0 Z0 hc l2 E1 F0 F1 A0 S1 P1 OL) hZ (w_ hw 62 rfl) (w_ hw 8 rfl) (by decide) (by decide)) qa102 qc102 (g := (mkF m 5 #[.val (.ref a), .val (.ref x), .val (.int 0), .unset, .unset, .unset] [(.ref x), (.int 0)])) rfl (by rw [hml]; rfl) (Steps.refl _) (argsL := []) (rest := [(.int 0)]) (lenOf pd_376 rfl) rfl (by show 2 * 0 + _ ≤ _; exact Nat.le_of_eq rfl) (hb hby d_prog_114_method_7_5) (fun _ _ => ⟨rfl, e101, (by decide : 0 + 0 ≤ _), (by decide : 0 + 0 ≤ _)⟩)
  dsimp only [Pt.U, Pt.locs, Pt.cells, Pt.slots] at X102 l102 y102 z102 st102 hQ102
  subst l102 y102 z102
  obtain ⟨rfl, Nq102, e102_⟩ := hQ102
  have N102_ := Fr.app N0 Nq102
  refine Fin.byS st102 ?_
  have e102 := e102_
  show Fin _ _ _ _ _ _ _ (T102.setTop (mkF m 8 #[.val (.ref a), .val (.ref x), .val (.int 0), .unset, .unset, .unset] [(.int (Int32.ofNat ([] : List Int32).length)), (.int 0)]))
  refine Fin.by (fun tt_ kk_ => XS.icmpYes X102.here hx rfl (pc0 := 8) (pc' := 13) rfl (hb hby d_prog_114_method_7_8) rfl (teq (rfl : (0 : Int32) = (Int32.ofNat ([] : List Int32).length))).1 (by decide) (by decide) kk_) ?_
  refine Fin.by (fun tt_ kk_ => XS.iconst X102.here hx rfl (hb hby d_prog_114_method_7_13) (XS.istoreN X102.here hx rfl (hb hby d_prog_114_method_7_14) rfl (l' := #[.val (.ref a), .val (.ref x), .val (.int 0), .val (.int 0), .unset, .unset]) rfl (XS.iloadN X102.here hx rfl (hb hby d_prog_114_method_7_15) rfl (XS.aloadN X102.here hx rfl (hb hby d_prog_114_method_7_16) rfl rfl kk_)))) ?_
  obtain ⟨T103, X103, e103, st103⟩ := getF X102 hx hZ hown (host := "") (Or.inl (w_ hw 42 rfl)) Via.refl e102 Fl (g := (mkF m 17 #[.val (.ref a), .val (.ref x), .val (.int 0), .val (.int 0), .unset, .unset] [(.ref a), (.int 0)])) rfl rfl (hb hby d_prog_114_method_7_17)
  refine Fin.by (fun tt_ kk_ => st103 tt_ kk_) ?_
  show Fin _ _ _ _ _ _ _ (T103.setTop (mkF m 20 #[.val (.ref a), .val (.ref x), .val (.int 0), .val (.int 0), .unset, .unset] [(.int 0), (.int 0)]))
  refine Fin.by (fun tt_ kk_ => XS.icmpYes X103.here hx rfl (pc0 := 20) (pc' := 83) rfl (hb hby d_prog_114_method_7_20) rfl (flt (by decide : ¬ (0 : Int32) < (0 : Int32))).2.1 (by decide) (by decide) kk_) ?_
  refine Fin.by (fun tt_ kk_ => XS.iconst X103.here hx rfl (hb hby d_prog_114_method_7_83) kk_) ?_
  show Fin _ _ _ _ _ _ _ (T103.setTop (mkF m 84 #[.val (.ref a), .val (.ref x), .val (.int 0), .val (.int 0), .unset, .unset] [(.int 1)]))
  exact Fin.ret (v := some (.int (nar .boolean (1 : Int32)))) X103 (fun h => by rw [Bd.returns] at h; cases h) Bd.notSynchronized (by rw [e103]; exact ⟨rfl, N102_, rfl⟩) (by decide) (by decide) (fun fs hr => retN X103 hx (t := .boolean) Bd.returns (by simp) (hb hby d_prog_114_method_7_84) hr)
def Q_isx0 (Z : State) (a : Addr) (b : Addr) (kk : ClassId) (KN : Int32) (v2 : List Value) (x : Addr) (t : Addr) (kb : ClassId) (N2 : Int32) (vs : List Value) (cd : Int32) (G1 : Int32) (G9 : Value) (h0 : Heap) (n0 : Nat) (vv_ : Option Value) (hh_ : Heap) (LL_ : List Loc) : Prop := vv_ = some (.int (nar .boolean (nar .boolean (1 : Int32)))) ∧ Fr n0 LL_ ∧ hh_ = h0
set_option maxRecDepth 65536 in
set_option maxHeartbeats 40000000 in
theorem rm_isx0 (l : Launch) (Z : State) (a0 : Array Value) (hw : ∀ d ∈ tables_1, d.before a0 Z = true) (ws : List Jvm.Cond) (a : Addr) (b : Addr) (kk : ClassId) (KN : Int32) (v2 : List Value) (x : Addr) (t : Addr) (kb : ClassId) (N2 : Int32) (vs : List Value) (cd : Int32) (G1 : Int32) (G9 : Value) (h0 : Heap) (n0 : Nat) (Z0 : n0 ≤ h0.size) (hc : StrChars.Road.CodA ([] : List Int32) cd N2 vs) (hb3 : ∀ c ∈ ([] : List Int32), ¬ c < 0 ∧ ¬ (65535 : Int32) < c) (l2 : List.length ([] : List Int32) ≤ 4000) (hkn : 0 ≤ KN.toNatClampNeg) (E0 : Exa Z h0 a "com/example/colonnade/colonnade/WordBuffer") (Fc : Fld Z h0 a "com/example/colonnade/colonnade/WordBuffer" "chars" "[C" (.ref b)) (Fl : Fld Z h0 a "com/example/colonnade/colonnade/WordBuffer" "length" "I" (.int (0 : Int32))) (Ak : Arv Z h0 b kk .char KN v2 (.int (0 : Int32))) (E1 : Exa Z h0 x "java/lang/String") (F0 : Fld Z h0 x "java/lang/String" "value" "[B" (.ref t)) (F1 : Fld Z h0 x "java/lang/String" "coder" "B" (.int cd)) (A0 : Arv Z h0 t kb .byte N2 vs (.int 0)) (S1 : Sta Z Z.heap "java/lang/String" "COMPACT_STRINGS" "Z" (.int G1)) (P1 : ¬ G1 = 0) (S6 : Sta Z Z.heap "java/lang/StringUTF16" "$assertionsDisabled" "Z" (.int (1 : Int32))) (S7 : Sta Z Z.heap "java/lang/StringUTF16" "HI_BYTE_SHIFT" "I" (.int (0 : Int32))) (S8 : Sta Z Z.heap "java/lang/StringUTF16" "LO_BYTE_SHIFT" "I" (.int (8 : Int32))) (S9 : Sta Z Z.heap "jdk/internal/util/Preconditions" "SIOOBE_FORMATTER" "Ljava/util/function/BiFunction;" G9) (r9 : G9.isRef = true) (OL : Old Z n0 h0) :
    MetFree l (⟨"com/example/colonnade/colonnade/WordBuffer", "isExactly", "(Ljava/lang/String;)Z"⟩ : MethodName) (head1 (Jvm.Cond.code (⟨"com/example/colonnade/colonnade/WordBuffer", "isExactly", "(Ljava/lang/String;)Z"⟩ : MethodName) prog_114_method_6_code 2 (some .boolean) :: ws) ({ frames := 3, cells := 0, slots := 0, locals := 43 } : Room)) (fun aa_ U => aa_ = #[(.ref a), (.ref x)] ∧ Z.Warmed39 U.vm ∧ U.heap = h0) (fun _ _ _ _ _ => True) (fun _ U o U' => ∃ vv_ LL_, o = .returned vv_ ∧ Q_isx0 Z a b kk KN v2 x t kb N2 vs cd G1 G9 h0 n0 vv_ U'.heap LL_ ∧ FrameEnd U o U' LL_ 0 0) := by
  refine MetFree.of_bodySF (plainFor_of_name pn_com_example_colonnade_colonnade_WordBuffer) hisR ?_
  intro p e s m args below meth c s₁ Bd hml0 hP hK
  obtain ⟨rfl, hZ, hh⟩ := hP
  have hx := Bd.exec
  have hby := Bd.bytes
  have hml : c.maxLocals = 2 := hml0
  have hown : s.vm.findClass "com/example/colonnade/colonnade/WordBuffer" = some m.cls := findClass_of_methodNamed Bd.named
  have hnm := (name_of_methodNamed Bd.named Bd.method).1
  have X0 : Stand p l e ({ frames := 3, cells := 0, slots := 0, locals := 43 } : Room) s m #[(.ref a), (.ref x)] below meth c s₁ [] 0 0 := Stand.of_body Bd
  have e0 : s₁.heap = h0 := by rw [← hh, Bd.state]; rfl
  have N0 := Fr.nil n0
  have ef : entryFrame m #[(.ref a), (.ref x)] 2 = mkF m 0 #[.val (.ref a), .val (.ref x)] [] := by first | (simp [entryFrame, mkF, argsToLocals, Value.category]; done) | rfl
  refine Fin.start (Q := Q_isx0 Z a b kk KN v2 x t kb N2 vs cd G1 G9 h0 n0) ef ?_
  refine Fin.by (fun tt_ kk_ => XS.aloadN X0.here hx rfl (hb hby d_prog_114_method_6_0) rfl rfl (XS.aloadN X0.here hx rfl (hb hby d_prog_114_method_6_1) rfl rfl (XS.iconst X0.here hx rfl (hb hby d_prog_114_method_6_2) kk_))) ?_
  obtain ⟨cq101, qa101, qb101⟩ := E0.cell
  obtain ⟨v101, _, ⟨T101, L101, k101, n101⟩, -, X101, ⟨Lc101, hQ101, l101, y101, z101⟩, st101⟩ := X0.privateBack hx (y := y_19) hown (mvT hZ (w_ hw 54 rfl)) (mvT hZ (w_ hw 55 rfl)) (own_selpriv (z := y_20) (y := y_19) (mvT hZ (w_ hw 40 rfl)) rfl (Cond.privateMethod_at (mvP hZ (w_ hw 56 rfl) (args := #[]))) (mvT hZ (w_ hw 55 rfl)) (by decide)) (Cond.privateMethod_at (mvP hZ (w_ hw 56 rfl) (args := #[]))) (mvT hZ (w_ hw 57 rfl)) (by decide) (backOf (W := 0) (rm_mat0 l Z a0 hw [] a b kk KN (v2 : List Value) x t kb N2 (vs : List Value) cd G1 G9 h0 n0 Z0 hc hb3 l2 hkn E0 Fc Fl Ak E1 F0 F1 A0 S1 P1 S6 S7 S8 S9 r9 OL) hZ (w_ hw 57 rfl) (w_ hw 30 rfl) (by decide) (by decide)) (g := (mkF m 3 #[.val (.ref a), .val (.ref x)] [(.int 0), (.ref x), (.ref a)])) rfl (by rw [hml]; rfl) (Steps.refl _) (a := a) (by rw [e0]; exact qa101) qb101 (argsL := [(.ref x), (.int 0)]) (rest := []) (lenOf pd_384 rfl) rfl (by show 2 * 0 + _ ≤ _; exact Nat.le_of_eq rfl) (hb hby d_prog_114_method_6_3) (fun _ _ => ⟨rfl, e0, (by decide : 0 + 0 ≤ _), (by decide : 0 + 0 ≤ _)⟩)
  dsimp only [Pt.U, Pt.locs, Pt.cells, Pt.slots] at X101 l101 y101 z101 st101 hQ101
  subst l101 y101 z101
  obtain ⟨rfl, Nq101, e101_⟩ := hQ101
  have N101_ := Fr.app N0 Nq101
  refine Fin.byS st101 ?_
  have e101 := e101_
  show Fin _ _ _ _ _ _ _ (T101.setTop (mkF m 6 #[.val (.ref a), .val (.ref x)] [(.int (nar .boolean 1))]))
  exact Fin.ret (v := some (.int (nar .boolean (nar .boolean (1 : Int32))))) X101 (fun h => by rw [Bd.returns] at h; cases h) Bd.notSynchronized (by rw [e101]; exact ⟨rfl, N101_, rfl⟩) (by decide) (by decide) (fun fs hr => retN X101 hx (t := .boolean) Bd.returns (by simp) (hb hby d_prog_114_method_6_6) hr)
abbrev y_21 : MethodName := (⟨"java/lang/String", "charAt", "(I)C"⟩ : MethodName)
theorem d_prog_114_method_7_23 : decode prog_114_method_7_code 23 = .ok (.aload_n 0, 1) := by decide +kernel
theorem d_prog_114_method_7_24 : decode prog_114_method_7_code 24 = .ok (.getfield 7, 3) := by decide +kernel
theorem d_prog_114_method_7_27 : decode prog_114_method_7_code 27 = .ok (.iload_n 3, 1) := by decide +kernel
theorem d_prog_114_method_7_28 : decode prog_114_method_7_code 28 = .ok (.caload, 1) := by decide +kernel
theorem d_prog_114_method_7_29 : decode prog_114_method_7_code 29 = .ok (.istore 4, 2) := by decide +kernel
theorem d_prog_114_method_7_31 : decode prog_114_method_7_code 31 = .ok (.iload_n 2, 1) := by decide +kernel
theorem d_prog_114_method_7_32 : decode prog_114_method_7_code 32 = .ok (.ifCond .eq 29, 3) := by decide +kernel
theorem d_prog_114_method_7_61 : decode prog_114_method_7_code 61 = .ok (.iload 4, 2) := by decide +kernel
theorem d_prog_114_method_7_63 : decode prog_114_method_7_code 63 = .ok (.istore 5, 2) := by decide +kernel
theorem d_prog_114_method_7_65 : decode prog_114_method_7_code 65 = .ok (.iload 5, 2) := by decide +kernel
theorem d_prog_114_method_7_67 : decode prog_114_method_7_code 67 = .ok (.aload_n 1, 1) := by decide +kernel
theorem d_prog_114_method_7_68 : decode prog_114_method_7_code 68 = .ok (.iload_n 3, 1) := by decide +kernel
theorem pd_407 : parseMethodDescriptor "(I)C" = some ⟨[.int], some .char⟩ := by decide +kernel
theorem d_prog_114_method_7_69 : decode prog_114_method_7_code 69 = .ok (.invokevirtual 26, 3) := by decide +kernel
theorem d_prog_114_method_7_72 : decode prog_114_method_7_code 72 = .ok (.if_icmp .eq 5, 3) := by decide +kernel
theorem d_prog_114_method_7_77 : decode prog_114_method_7_code 77 = .ok (.iinc 3 1, 3) := by decide +kernel
theorem d_prog_114_method_7_80 : decode prog_114_method_7_code 80 = .ok (.goto (-65), 3) := by decide +kernel
def Q_mat1 (Z : State) (a : Addr) (b : Addr) (kk : ClassId) (KN : Int32) (v2 : List Value) (u0 : Int32) (x : Addr) (t : Addr) (kb : ClassId) (N2 : Int32) (vs : List Value) (cd : Int32) (G1 : Int32) (G9 : Value) (h0 : Heap) (n0 : Nat) (vv_ : Option Value) (hh_ : Heap) (LL_ : List Loc) : Prop := vv_ = some (.int (nar .boolean (1 : Int32))) ∧ Fr n0 LL_ ∧ hh_ = h0
set_option maxRecDepth 65536 in
set_option maxHeartbeats 40000000 in
theorem rm_mat1 (l : Launch) (Z : State) (a0 : Array Value) (hw : ∀ d ∈ tables_1, d.before a0 Z = true) (ws : List Jvm.Cond) (a : Addr) (b : Addr) (kk : ClassId) (KN : Int32) (v2 : List Value) (u0 : Int32) (x : Addr) (t : Addr) (kb : ClassId) (N2 : Int32) (vs : List Value) (cd : Int32) (G1 : Int32) (G9 : Value) (h0 : Heap) (n0 : Nat) (Z0 : n0 ≤ h0.size) (hc : StrChars.Road.CodA ([u0] : List Int32) cd N2 vs) (hb3 : ∀ c ∈ ([u0] : List Int32), ¬ c < 0 ∧ ¬ (65535 : Int32) < c) (l2 : List.length ([u0] : List Int32) ≤ 4000) (hg0 : v2.getD 0 (.int 0) = .int u0) (hkn : 1 ≤ KN.toNatClampNeg) (E0 : Exa Z h0 a "com/example/colonnade/colonnade/WordBuffer") (Fc : Fld Z h0 a "com/example/colonnade/colonnade/WordBuffer" "chars" "[C" (.ref b)) (Fl : Fld Z h0 a "com/example/colonnade/colonnade/WordBuffer" "length" "I" (.int (1 : Int32))) (Ak : Arv Z h0 b kk .char KN v2 (.int (0 : Int32))) (E1 : Exa Z h0 x "java/lang/String") (F0 : Fld Z h0 x "java/lang/String" "value" "[B" (.ref t)) (F1 : Fld Z h0 x "java/lang/String" "coder" "B" (.int cd)) (A0 : Arv Z h0 t kb .byte N2 vs (.int 0)) (S1 : Sta Z Z.heap "java/lang/String" "COMPACT_STRINGS" "Z" (.int G1)) (P1 : ¬ G1 = 0) (S6 : Sta Z Z.heap "java/lang/StringUTF16" "$assertionsDisabled" "Z" (.int (1 : Int32))) (S7 : Sta Z Z.heap "java/lang/StringUTF16" "HI_BYTE_SHIFT" "I" (.int (0 : Int32))) (S8 : Sta Z Z.heap "java/lang/StringUTF16" "LO_BYTE_SHIFT" "I" (.int (8 : Int32))) (S9 : Sta Z Z.heap "jdk/internal/util/Preconditions" "SIOOBE_FORMATTER" "Ljava/util/function/BiFunction;" G9) (r9 : G9.isRef = true) (OL : Old Z n0 h0) :
    MetFree l (⟨"com/example/colonnade/colonnade/WordBuffer", "matches", "(Ljava/lang/String;Z)Z"⟩ : MethodName) (head1 (Jvm.Cond.code (⟨"com/example/colonnade/colonnade/WordBuffer", "matches", "(Ljava/lang/String;Z)Z"⟩ : MethodName) prog_114_method_7_code 6 (some .boolean) :: ws) ({ frames := 5, cells := 0, slots := 0, locals := 67 } : Room)) (fun aa_ U => aa_ = #[(.ref a), (.ref x), (.int (0 : Int32))] ∧ Z.Warmed39 U.vm ∧ U.heap = h0) (fun _ _ _ _ _ => True) (fun _ U o U' => ∃ vv_ LL_, o = .returned vv_ ∧ Q_mat1 Z a b kk KN v2 u0 x t kb N2 vs cd G1 G9 h0 n0 vv_ U'.heap LL_ ∧ FrameEnd U o U' LL_ 0 0) := by
  refine MetFree.of_bodySF (plainFor_of_name pn_com_example_colonnade_colonnade_WordBuffer) hisR ?_
  intro p e s m args below meth c s₁ Bd hml0 hP hK
  obtain ⟨rfl, hZ, hh⟩ := hP
  have hx := Bd.exec
  have hby := Bd.bytes
  have hml : c.maxLocals = 6 := hml0
  have hown : s.vm.findClass "com/example/colonnade/colonnade/WordBuffer" = some m.cls := findClass_of_methodNamed Bd.named
  have hnm := (name_of_methodNamed Bd.named Bd.method).1
  have X0 : Stand p l e ({ frames := 5, cells := 0, slots := 0, locals := 67 } : Room) s m #[(.ref a), (.ref x), (.int (0 : Int32))] below meth c s₁ [] 0 0 := Stand.of_body Bd
  have e0 : s₁.heap = h0 := by rw [← hh, Bd.state]; rfl
  have N0 := Fr.nil n0
  have ef : entryFrame m #[(.ref a), (.ref x), (.int (0 : Int32))] 6 = mkF m 0 #[.val (.ref a), .val (.ref x), .val (.int (0 : Int32)), .unset, .unset, .unset] [] := by first | (simp [entryFrame, mkF, argsToLocals, Value.category]; done) | rfl
  refine Fin.start (Q := Q_mat1 Z a b kk KN v2 u0 x t kb N2 vs cd G1 G9 h0 n0) ef ?_
  refine Fin.by (fun tt_ kk_ => XS.aloadN X0.here hx rfl (hb hby d_prog_114_method_7_0) rfl rfl kk_) ?_
  obtain ⟨T101, X101, e101, st101⟩ := getF X0 hx hZ hown (host := "") (Or.inl (w_ hw 42 rfl)) Via.refl e0 Fl (g := (mkF m 1 #[.val (.ref a), .val (.ref x), .val (.int 0), .unset, .unset, .unset] [(.ref a)])) rfl rfl (hb hby d_prog_114_method_7_1)
  refine Fin.by (fun tt_ kk_ => st101 tt_ kk_) ?_
  refine Fin.by (fun tt_ kk_ => XS.aloadN X101.here hx rfl (hb hby d_prog_114_method_7_4) rfl rfl kk_) ?_
  obtain ⟨cq102, kq102, qa102, qb102, qc102⟩ := isOf hZ e101 E1
  obtain ⟨v102, _, ⟨T102, L102, k102, n102⟩, -, X102, ⟨Lc102, hQ102, l102, y102, z102⟩, st102⟩ := X101.virtualBack hx (y := y_18) (z := y_18) hown (mvT hZ (w_ hw 58 rfl)) (mvT hZ (w_ hw 59 rfl)) (notFace_of_selects (args := #[]) (mvT hZ (w_ hw 61 rfl))) (mvT hZ (w_ hw 61 rfl)) (mvT hZ (w_ hw 60 rfl)) (by decide) (backOf (W := 1) (rm_sle l Z a0 hw [] x t kb N2 (vs : List Value) ([u0] : List Int32) cd G1 h0 n0 Z0 hc l2 E1 F0 F1 A0 S1 P1 OL) hZ (w_ hw 62 rfl) (w_ hw 8 rfl) (by decide) (by decide)) qa102 qc102 (g := (mkF m 5 #[.val (.ref a), .val (.ref x), .val (.int 0), .unset, .unset, .unset] [(.ref x), (.int 1)])) rfl (by rw [hml]; rfl) (Steps.refl _) (argsL := []) (rest := [(.int 1)]) (lenOf pd_376 rfl) rfl (by show 2 * 0 + _ ≤ _; exact Nat.le_of_eq rfl) (hb hby d_prog_114_method_7_5) (fun _ _ => ⟨rfl, e101, (by decide : 0 + 0 ≤ _), (by decide : 0 + 0 ≤ _)⟩)
  dsimp only [Pt.U, Pt.locs, Pt.cells, Pt.slots] at X102 l102 y102 z102 st102 hQ102
  subst l102 y102 z102
  obtain ⟨rfl, Nq102, e102_⟩ := hQ102
  have N102_ := Fr.app N0 Nq102
  refine Fin.byS st102 ?_
  have e102 := e102_
  show Fin _ _ _ _ _ _ _ (T102.setTop (mkF m 8 #[.val (.ref a), .val (.ref x), .val (.int 0), .unset, .unset, .unset] [(.int (Int32.ofNat ([u0] : List Int32).length)), (.int 1)]))
  refine Fin.by (fun tt_ kk_ => XS.icmpYes X102.here hx rfl (pc0 := 8) (pc' := 13) rfl (hb hby d_prog_114_method_7_8) rfl (teq (rfl : (1 : Int32) = (Int32.ofNat ([u0] : List Int32).length))).1 (by decide) (by decide) kk_) ?_
  refine Fin.by (fun tt_ kk_ => XS.iconst X102.here hx rfl (hb hby d_prog_114_method_7_13) (XS.istoreN X102.here hx rfl (hb hby d_prog_114_method_7_14) rfl (l' := #[.val (.ref a), .val (.ref x), .val (.int 0), .val (.int 0), .unset, .unset]) rfl (XS.iloadN X102.here hx rfl (hb hby d_prog_114_method_7_15) rfl (XS.aloadN X102.here hx rfl (hb hby d_prog_114_method_7_16) rfl rfl kk_)))) ?_
  obtain ⟨T103, X103, e103, st103⟩ := getF X102 hx hZ hown (host := "") (Or.inl (w_ hw 42 rfl)) Via.refl e102 Fl (g := (mkF m 17 #[.val (.ref a), .val (.ref x), .val (.int 0), .val (.int 0), .unset, .unset] [(.ref a), (.int 0)])) rfl rfl (hb hby d_prog_114_method_7_17)
  refine Fin.by (fun tt_ kk_ => st103 tt_ kk_) ?_
  show Fin _ _ _ _ _ _ _ (T103.setTop (mkF m 20 #[.val (.ref a), .val (.ref x), .val (.int 0), .val (.int 0), .unset, .unset] [(.int 1), (.int 0)]))
  refine Fin.by (fun tt_ kk_ => XS.icmpNo X103.here hx rfl (hb hby d_prog_114_method_7_20) rfl (tlt (by decide : (0 : Int32) < (1 : Int32))).2.1 kk_) ?_
  refine Fin.by (fun tt_ kk_ => XS.aloadN X103.here hx rfl (hb hby d_prog_114_method_7_23) rfl rfl kk_) ?_
  obtain ⟨T104, X104, e104, st104⟩ := getF X103 hx hZ hown (host := "") (Or.inl (w_ hw 35 rfl)) Via.refl e103 Fc (g := (mkF m 24 #[.val (.ref a), .val (.ref x), .val (.int 0), .val (.int 0), .unset, .unset] [(.ref a)])) rfl rfl (hb hby d_prog_114_method_7_24)
  refine Fin.by (fun tt_ kk_ => st104 tt_ kk_) ?_
  refine Fin.by (fun tt_ kk_ => XS.iloadN X104.here hx rfl (hb hby d_prog_114_method_7_27) rfl kk_) ?_
  obtain ⟨cl105, Ar105, q105, S105, N105, H105, G105⟩ := id Ak
  have hin105 : ¬ ((0 : Int32) < 0 ∨ cl105.slots.size ≤ (0 : Int32).toNatClampNeg) := within (show (0 : Int32) = Int32.ofNat 0 from rfl) (by rw [S105]; omega) (by rw [S105]; exact own_clamp _)
  refine Fin.by (fun tt_ kk_ => X104.caload hx (j := (0 : Int32)) (v := (.int u0)) (by rw [e104]; exact Ar105.1) (State.isArrayOf_alike hZ.alike Ar105.2.1) Ar105.2.2 hin105 (Has.at H105 hin105 (by rw [show (0 : Int32).toNatClampNeg = 0 from by decide]; exact hg0)) (g := (mkF m 28 #[.val (.ref a), .val (.ref x), .val (.int 0), .val (.int 0), .unset, .unset] [(.int 0), (.ref b)])) rfl rfl (hb hby d_prog_114_method_7_28) _ kk_) ?_
  refine Fin.by (fun tt_ kk_ => XS.istore X104.here hx rfl (hb hby d_prog_114_method_7_29) rfl (l' := #[.val (.ref a), .val (.ref x), .val (.int 0), .val (.int 0), .val (.int u0), .unset]) rfl (XS.iloadN X104.here hx rfl (hb hby d_prog_114_method_7_31) rfl kk_)) ?_
  show Fin _ _ _ _ _ _ _ (T104.setTop (mkF m 32 #[.val (.ref a), .val (.ref x), .val (.int 0), .val (.int 0), .val (.int u0), .unset] [(.int 0)]))
  refine Fin.by (fun tt_ kk_ => XS.ifYes X104.here hx rfl (pc0 := 32) (pc' := 61) rfl (hb hby d_prog_114_method_7_32) rfl ((if0 _ _).trans (teq (rfl : (0 : Int32) = (0 : Int32))).1) (by decide) (by decide) kk_) ?_
  refine Fin.by (fun tt_ kk_ => XS.iload X104.here hx rfl (hb hby d_prog_114_method_7_61) rfl (XS.istore X104.here hx rfl (hb hby d_prog_114_method_7_63) rfl (l' := #[.val (.ref a), .val (.ref x), .val (.int 0), .val (.int 0), .val (.int u0), .val (.int u0)]) rfl (XS.iload X104.here hx rfl (hb hby d_prog_114_method_7_65) rfl (XS.aloadN X104.here hx rfl (hb hby d_prog_114_method_7_67) rfl rfl (XS.iloadN X104.here hx rfl (hb hby d_prog_114_method_7_68) rfl kk_))))) ?_
  obtain ⟨cq106, kq106, qa106, qb106, qc106⟩ := isOf hZ e104 E1
  obtain ⟨v106, _, ⟨T106, L106, k106, n106⟩, -, X106, ⟨Lc106, hQ106, l106, y106, z106⟩, st106⟩ := X104.virtualBack hx (y := y_21) (z := y_21) hown (mvT hZ (w_ hw 98 rfl)) (mvT hZ (w_ hw 99 rfl)) (notFace_of_selects (args := #[]) (mvT hZ (w_ hw 101 rfl))) (mvT hZ (w_ hw 101 rfl)) (mvT hZ (w_ hw 100 rfl)) (by decide) (backOf (W := 1) (rm_chA l Z a0 hw [] x t kb N2 (vs : List Value) ([u0] : List Int32) cd 0 (0 : Int32) G1 G9 h0 n0 Z0 hc hb3 l2 (Nat.le_of_ble_eq_true rfl) rfl E1 F0 F1 A0 S1 P1 S6 S7 S8 S9 r9 OL) hZ (w_ hw 102 rfl) (w_ hw 8 rfl) (by decide) (by decide)) qa106 qc106 (g := (mkF m 69 #[.val (.ref a), .val (.ref x), .val (.int 0), .val (.int 0), .val (.int u0), .val (.int u0)] [(.int 0), (.ref x), (.int u0)])) rfl (by rw [hml]; rfl) (Steps.refl _) (argsL := [(.int 0)]) (rest := [(.int u0)]) (lenOf pd_407 rfl) rfl (by show 2 * 0 + _ ≤ _; exact Nat.le_of_eq rfl) (hb hby d_prog_114_method_7_69) (fun _ _ => ⟨rfl, e104, (by decide : 0 + 0 ≤ _), (by decide : 0 + 0 ≤ _)⟩)
  dsimp only [Pt.U, Pt.locs, Pt.cells, Pt.slots] at X106 l106 y106 z106 st106 hQ106
  subst l106 y106 z106
  obtain ⟨rfl, Nq106, e106_⟩ := hQ106
  have N106_ := Fr.app N102_ Nq106
  refine Fin.byS st106 ?_
  have e106 := e106_
  show Fin _ _ _ _ _ _ _ (T106.setTop (mkF m 72 #[.val (.ref a), .val (.ref x), .val (.int 0), .val (.int 0), .val (.int u0), .val (.int u0)] [(.int (([u0] : List Int32).getD 0 0)), (.int u0)]))
  refine Fin.by (fun tt_ kk_ => XS.icmpYes X106.here hx rfl (pc0 := 72) (pc' := 77) rfl (hb hby d_prog_114_method_7_72) rfl (teq (rfl : u0 = (([u0] : List Int32).getD 0 0))).1 (by decide) (by decide) kk_) ?_
  refine Fin.by (fun tt_ kk_ => XS.iinc X106.here hx rfl (hb hby d_prog_114_method_7_77) rfl (l' := #[.val (.ref a), .val (.ref x), .val (.int 0), .val (.int 1), .val (.int u0), .val (.int u0)]) rfl (XS.goto X106.here hx rfl (pc0 := 80) (pc' := 15) rfl (hb hby d_prog_114_method_7_80) (by decide) (by decide) (XS.iloadN X106.here hx rfl (hb hby d_prog_114_method_7_15) rfl (XS.aloadN X106.here hx rfl (hb hby d_prog_114_method_7_16) rfl rfl kk_)))) ?_
  obtain ⟨T107, X107, e107, st107⟩ := getF X106 hx hZ hown (host := "") (Or.inl (w_ hw 42 rfl)) Via.refl e106 Fl (g := (mkF m 17 #[.val (.ref a), .val (.ref x), .val (.int 0), .val (.int 1), .val (.int u0), .val (.int u0)] [(.ref a), (.int 1)])) rfl rfl (hb hby d_prog_114_method_7_17)
  refine Fin.by (fun tt_ kk_ => st107 tt_ kk_) ?_
  show Fin _ _ _ _ _ _ _ (T107.setTop (mkF m 20 #[.val (.ref a), .val (.ref x), .val (.int 0), .val (.int 1), .val (.int u0), .val (.int u0)] [(.int 1), (.int 1)]))
  refine Fin.by (fun tt_ kk_ => XS.icmpYes X107.here hx rfl (pc0 := 20) (pc' := 83) rfl (hb hby d_prog_114_method_7_20) rfl (flt (by decide : ¬ (1 : Int32) < (1 : Int32))).2.1 (by decide) (by decide) kk_) ?_
  refine Fin.by (fun tt_ kk_ => XS.iconst X107.here hx rfl (hb hby d_prog_114_method_7_83) kk_) ?_
  show Fin _ _ _ _ _ _ _ (T107.setTop (mkF m 84 #[.val (.ref a), .val (.ref x), .val (.int 0), .val (.int 1), .val (.int u0), .val (.int u0)] [(.int 1)]))
  exact Fin.ret (v := some (.int (nar .boolean (1 : Int32)))) X107 (fun h => by rw [Bd.returns] at h; cases h) Bd.notSynchronized (by rw [e107]; exact ⟨rfl, N106_, rfl⟩) (by decide) (by decide) (fun fs hr => retN X107 hx (t := .boolean) Bd.returns (by simp) (hb hby d_prog_114_method_7_84) hr)
def Q_isx1 (Z : State) (a : Addr) (b : Addr) (kk : ClassId) (KN : Int32) (v2 : List Value) (u0 : Int32) (x : Addr) (t : Addr) (kb : ClassId) (N2 : Int32) (vs : List Value) (cd : Int32) (G1 : Int32) (G9 : Value) (h0 : Heap) (n0 : Nat) (vv_ : Option Value) (hh_ : Heap) (LL_ : List Loc) : Prop := vv_ = some (.int (nar .boolean (nar .boolean (1 : Int32)))) ∧ Fr n0 LL_ ∧ hh_ = h0
set_option maxRecDepth 65536 in
set_option maxHeartbeats 40000000 in
theorem rm_isx1 (l : Launch) (Z : State) (a0 : Array Value) (hw : ∀ d ∈ tables_1, d.before a0 Z = true) (ws : List Jvm.Cond) (a : Addr) (b : Addr) (kk : ClassId) (KN : Int32) (v2 : List Value) (u0 : Int32) (x : Addr) (t : Addr) (kb : ClassId) (N2 : Int32) (vs : List Value) (cd : Int32) (G1 : Int32) (G9 : Value) (h0 : Heap) (n0 : Nat) (Z0 : n0 ≤ h0.size) (hc : StrChars.Road.CodA ([u0] : List Int32) cd N2 vs) (hb3 : ∀ c ∈ ([u0] : List Int32), ¬ c < 0 ∧ ¬ (65535 : Int32) < c) (l2 : List.length ([u0] : List Int32) ≤ 4000) (hg0 : v2.getD 0 (.int 0) = .int u0) (hkn : 1 ≤ KN.toNatClampNeg) (E0 : Exa Z h0 a "com/example/colonnade/colonnade/WordBuffer") (Fc : Fld Z h0 a "com/example/colonnade/colonnade/WordBuffer" "chars" "[C" (.ref b)) (Fl : Fld Z h0 a "com/example/colonnade/colonnade/WordBuffer" "length" "I" (.int (1 : Int32))) (Ak : Arv Z h0 b kk .char KN v2 (.int (0 : Int32))) (E1 : Exa Z h0 x "java/lang/String") (F0 : Fld Z h0 x "java/lang/String" "value" "[B" (.ref t)) (F1 : Fld Z h0 x "java/lang/String" "coder" "B" (.int cd)) (A0 : Arv Z h0 t kb .byte N2 vs (.int 0)) (S1 : Sta Z Z.heap "java/lang/String" "COMPACT_STRINGS" "Z" (.int G1)) (P1 : ¬ G1 = 0) (S6 : Sta Z Z.heap "java/lang/StringUTF16" "$assertionsDisabled" "Z" (.int (1 : Int32))) (S7 : Sta Z Z.heap "java/lang/StringUTF16" "HI_BYTE_SHIFT" "I" (.int (0 : Int32))) (S8 : Sta Z Z.heap "java/lang/StringUTF16" "LO_BYTE_SHIFT" "I" (.int (8 : Int32))) (S9 : Sta Z Z.heap "jdk/internal/util/Preconditions" "SIOOBE_FORMATTER" "Ljava/util/function/BiFunction;" G9) (r9 : G9.isRef = true) (OL : Old Z n0 h0) :
    MetFree l (⟨"com/example/colonnade/colonnade/WordBuffer", "isExactly", "(Ljava/lang/String;)Z"⟩ : MethodName) (head1 (Jvm.Cond.code (⟨"com/example/colonnade/colonnade/WordBuffer", "isExactly", "(Ljava/lang/String;)Z"⟩ : MethodName) prog_114_method_6_code 2 (some .boolean) :: ws) ({ frames := 6, cells := 0, slots := 0, locals := 84 } : Room)) (fun aa_ U => aa_ = #[(.ref a), (.ref x)] ∧ Z.Warmed39 U.vm ∧ U.heap = h0) (fun _ _ _ _ _ => True) (fun _ U o U' => ∃ vv_ LL_, o = .returned vv_ ∧ Q_isx1 Z a b kk KN v2 u0 x t kb N2 vs cd G1 G9 h0 n0 vv_ U'.heap LL_ ∧ FrameEnd U o U' LL_ 0 0) := by
  refine MetFree.of_bodySF (plainFor_of_name pn_com_example_colonnade_colonnade_WordBuffer) hisR ?_
  intro p e s m args below meth c s₁ Bd hml0 hP hK
  obtain ⟨rfl, hZ, hh⟩ := hP
  have hx := Bd.exec
  have hby := Bd.bytes
  have hml : c.maxLocals = 2 := hml0
  have hown : s.vm.findClass "com/example/colonnade/colonnade/WordBuffer" = some m.cls := findClass_of_methodNamed Bd.named
  have hnm := (name_of_methodNamed Bd.named Bd.method).1
  have X0 : Stand p l e ({ frames := 6, cells := 0, slots := 0, locals := 84 } : Room) s m #[(.ref a), (.ref x)] below meth c s₁ [] 0 0 := Stand.of_body Bd
  have e0 : s₁.heap = h0 := by rw [← hh, Bd.state]; rfl
  have N0 := Fr.nil n0
  have ef : entryFrame m #[(.ref a), (.ref x)] 2 = mkF m 0 #[.val (.ref a), .val (.ref x)] [] := by first | (simp [entryFrame, mkF, argsToLocals, Value.category]; done) | rfl
  refine Fin.start (Q := Q_isx1 Z a b kk KN v2 u0 x t kb N2 vs cd G1 G9 h0 n0) ef ?_
  refine Fin.by (fun tt_ kk_ => XS.aloadN X0.here hx rfl (hb hby d_prog_114_method_6_0) rfl rfl (XS.aloadN X0.here hx rfl (hb hby d_prog_114_method_6_1) rfl rfl (XS.iconst X0.here hx rfl (hb hby d_prog_114_method_6_2) kk_))) ?_
  obtain ⟨cq101, qa101, qb101⟩ := E0.cell
  obtain ⟨v101, _, ⟨T101, L101, k101, n101⟩, -, X101, ⟨Lc101, hQ101, l101, y101, z101⟩, st101⟩ := X0.privateBack hx (y := y_19) hown (mvT hZ (w_ hw 54 rfl)) (mvT hZ (w_ hw 55 rfl)) (own_selpriv (z := y_20) (y := y_19) (mvT hZ (w_ hw 40 rfl)) rfl (Cond.privateMethod_at (mvP hZ (w_ hw 56 rfl) (args := #[]))) (mvT hZ (w_ hw 55 rfl)) (by decide)) (Cond.privateMethod_at (mvP hZ (w_ hw 56 rfl) (args := #[]))) (mvT hZ (w_ hw 57 rfl)) (by decide) (backOf (W := 0) (rm_mat1 l Z a0 hw [] a b kk KN (v2 : List Value) u0 x t kb N2 (vs : List Value) cd G1 G9 h0 n0 Z0 hc hb3 l2 hg0 hkn E0 Fc Fl Ak E1 F0 F1 A0 S1 P1 S6 S7 S8 S9 r9 OL) hZ (w_ hw 57 rfl) (w_ hw 30 rfl) (by decide) (by decide)) (g := (mkF m 3 #[.val (.ref a), .val (.ref x)] [(.int 0), (.ref x), (.ref a)])) rfl (by rw [hml]; rfl) (Steps.refl _) (a := a) (by rw [e0]; exact qa101) qb101 (argsL := [(.ref x), (.int 0)]) (rest := []) (lenOf pd_384 rfl) rfl (by show 2 * 0 + _ ≤ _; exact Nat.le_of_eq rfl) (hb hby d_prog_114_method_6_3) (fun _ _ => ⟨rfl, e0, (by decide : 0 + 0 ≤ _), (by decide : 0 + 0 ≤ _)⟩)
  dsimp only [Pt.U, Pt.locs, Pt.cells, Pt.slots] at X101 l101 y101 z101 st101 hQ101
  subst l101 y101 z101
  obtain ⟨rfl, Nq101, e101_⟩ := hQ101
  have N101_ := Fr.app N0 Nq101
  refine Fin.byS st101 ?_
  have e101 := e101_
  show Fin _ _ _ _ _ _ _ (T101.setTop (mkF m 6 #[.val (.ref a), .val (.ref x)] [(.int (nar .boolean 1))]))
  exact Fin.ret (v := some (.int (nar .boolean (nar .boolean (1 : Int32))))) X101 (fun h => by rw [Bd.returns] at h; cases h) Bd.notSynchronized (by rw [e101]; exact ⟨rfl, N101_, rfl⟩) (by decide) (by decide) (fun fs hr => retN X101 hx (t := .boolean) Bd.returns (by simp) (hb hby d_prog_114_method_6_6) hr)
def Q_mat2 (Z : State) (a : Addr) (b : Addr) (kk : ClassId) (KN : Int32) (v2 : List Value) (u0 : Int32) (u1 : Int32) (x : Addr) (t : Addr) (kb : ClassId) (N2 : Int32) (vs : List Value) (cd : Int32) (G1 : Int32) (G9 : Value) (h0 : Heap) (n0 : Nat) (vv_ : Option Value) (hh_ : Heap) (LL_ : List Loc) : Prop := vv_ = some (.int (nar .boolean (1 : Int32))) ∧ Fr n0 LL_ ∧ hh_ = h0
set_option maxRecDepth 65536 in
set_option maxHeartbeats 40000000 in
theorem rm_mat2 (l : Launch) (Z : State) (a0 : Array Value) (hw : ∀ d ∈ tables_1, d.before a0 Z = true) (ws : List Jvm.Cond) (a : Addr) (b : Addr) (kk : ClassId) (KN : Int32) (v2 : List Value) (u0 : Int32) (u1 : Int32) (x : Addr) (t : Addr) (kb : ClassId) (N2 : Int32) (vs : List Value) (cd : Int32) (G1 : Int32) (G9 : Value) (h0 : Heap) (n0 : Nat) (Z0 : n0 ≤ h0.size) (hc : StrChars.Road.CodA ([u0, u1] : List Int32) cd N2 vs) (hb3 : ∀ c ∈ ([u0, u1] : List Int32), ¬ c < 0 ∧ ¬ (65535 : Int32) < c) (l2 : List.length ([u0, u1] : List Int32) ≤ 4000) (hg0 : v2.getD 0 (.int 0) = .int u0) (hg1 : v2.getD 1 (.int 0) = .int u1) (hkn : 2 ≤ KN.toNatClampNeg) (E0 : Exa Z h0 a "com/example/colonnade/colonnade/WordBuffer") (Fc : Fld Z h0 a "com/example/colonnade/colonnade/WordBuffer" "chars" "[C" (.ref b)) (Fl : Fld Z h0 a "com/example/colonnade/colonnade/WordBuffer" "length" "I" (.int (2 : Int32))) (Ak : Arv Z h0 b kk .char KN v2 (.int (0 : Int32))) (E1 : Exa Z h0 x "java/lang/String") (F0 : Fld Z h0 x "java/lang/String" "value" "[B" (.ref t)) (F1 : Fld Z h0 x "java/lang/String" "coder" "B" (.int cd)) (A0 : Arv Z h0 t kb .byte N2 vs (.int 0)) (S1 : Sta Z Z.heap "java/lang/String" "COMPACT_STRINGS" "Z" (.int G1)) (P1 : ¬ G1 = 0) (S6 : Sta Z Z.heap "java/lang/StringUTF16" "$assertionsDisabled" "Z" (.int (1 : Int32))) (S7 : Sta Z Z.heap "java/lang/StringUTF16" "HI_BYTE_SHIFT" "I" (.int (0 : Int32))) (S8 : Sta Z Z.heap "java/lang/StringUTF16" "LO_BYTE_SHIFT" "I" (.int (8 : Int32))) (S9 : Sta Z Z.heap "jdk/internal/util/Preconditions" "SIOOBE_FORMATTER" "Ljava/util/function/BiFunction;" G9) (r9 : G9.isRef = true) (OL : Old Z n0 h0) :
    MetFree l (⟨"com/example/colonnade/colonnade/WordBuffer", "matches", "(Ljava/lang/String;Z)Z"⟩ : MethodName) (head1 (Jvm.Cond.code (⟨"com/example/colonnade/colonnade/WordBuffer", "matches", "(Ljava/lang/String;Z)Z"⟩ : MethodName) prog_114_method_7_code 6 (some .boolean) :: ws) ({ frames := 5, cells := 0, slots := 0, locals := 67 } : Room)) (fun aa_ U => aa_ = #[(.ref a), (.ref x), (.int (0 : Int32))] ∧ Z.Warmed39 U.vm ∧ U.heap = h0) (fun _ _ _ _ _ => True) (fun _ U o U' => ∃ vv_ LL_, o = .returned vv_ ∧ Q_mat2 Z a b kk KN v2 u0 u1 x t kb N2 vs cd G1 G9 h0 n0 vv_ U'.heap LL_ ∧ FrameEnd U o U' LL_ 0 0) := by
  refine MetFree.of_bodySF (plainFor_of_name pn_com_example_colonnade_colonnade_WordBuffer) hisR ?_
  intro p e s m args below meth c s₁ Bd hml0 hP hK
  obtain ⟨rfl, hZ, hh⟩ := hP
  have hx := Bd.exec
  have hby := Bd.bytes
  have hml : c.maxLocals = 6 := hml0
  have hown : s.vm.findClass "com/example/colonnade/colonnade/WordBuffer" = some m.cls := findClass_of_methodNamed Bd.named
  have hnm := (name_of_methodNamed Bd.named Bd.method).1
  have X0 : Stand p l e ({ frames := 5, cells := 0, slots := 0, locals := 67 } : Room) s m #[(.ref a), (.ref x), (.int (0 : Int32))] below meth c s₁ [] 0 0 := Stand.of_body Bd
  have e0 : s₁.heap = h0 := by rw [← hh, Bd.state]; rfl
  have N0 := Fr.nil n0
  have ef : entryFrame m #[(.ref a), (.ref x), (.int (0 : Int32))] 6 = mkF m 0 #[.val (.ref a), .val (.ref x), .val (.int (0 : Int32)), .unset, .unset, .unset] [] := by first | (simp [entryFrame, mkF, argsToLocals, Value.category]; done) | rfl
  refine Fin.start (Q := Q_mat2 Z a b kk KN v2 u0 u1 x t kb N2 vs cd G1 G9 h0 n0) ef ?_
  refine Fin.by (fun tt_ kk_ => XS.aloadN X0.here hx rfl (hb hby d_prog_114_method_7_0) rfl rfl kk_) ?_
  obtain ⟨T101, X101, e101, st101⟩ := getF X0 hx hZ hown (host := "") (Or.inl (w_ hw 42 rfl)) Via.refl e0 Fl (g := (mkF m 1 #[.val (.ref a), .val (.ref x), .val (.int 0), .unset, .unset, .unset] [(.ref a)])) rfl rfl (hb hby d_prog_114_method_7_1)
  refine Fin.by (fun tt_ kk_ => st101 tt_ kk_) ?_
  refine Fin.by (fun tt_ kk_ => XS.aloadN X101.here hx rfl (hb hby d_prog_114_method_7_4) rfl rfl kk_) ?_
  obtain ⟨cq102, kq102, qa102, qb102, qc102⟩ := isOf hZ e101 E1
  obtain ⟨v102, _, ⟨T102, L102, k102, n102⟩, -, X102, ⟨Lc102, hQ102, l102, y102, z102⟩, st102⟩ := X101.virtualBack hx (y := y_18) (z := y_18) hown (mvT hZ (w_ hw 58 rfl)) (mvT hZ (w_ hw 59 rfl)) (notFace_of_selects (args := #[]) (mvT hZ (w_ hw 61 rfl))) (mvT hZ (w_ hw 61 rfl)) (mvT hZ (w_ hw 60 rfl)) (by decide) (backOf (W := 1) (rm_sle l Z a0 hw [] x t kb N2 (vs : List Value) ([u0, u1] : List Int32) cd G1 h0 n0 Z0 hc l2 E1 F0 F1 A0 S1 P1 OL) hZ (w_ hw 62 rfl) (w_ hw 8 rfl) (by decide) (by decide)) qa102 qc102 (g := (mkF m 5 #[.val (.ref a), .val (.ref x), .val (.int 0), .unset, .unset, .unset] [(.ref x), (.int 2)])) rfl (by rw [hml]; rfl) (Steps.refl _) (argsL := []) (rest := [(.int 2)]) (lenOf pd_376 rfl) rfl (by show 2 * 0 + _ ≤ _; exact Nat.le_of_eq rfl) (hb hby d_prog_114_method_7_5) (fun _ _ => ⟨rfl, e101, (by decide : 0 + 0 ≤ _), (by decide : 0 + 0 ≤ _)⟩)
  dsimp only [Pt.U, Pt.locs, Pt.cells, Pt.slots] at X102 l102 y102 z102 st102 hQ102
  subst l102 y102 z102
  obtain ⟨rfl, Nq102, e102_⟩ := hQ102
  have N102_ := Fr.app N0 Nq102
  refine Fin.byS st102 ?_
  have e102 := e102_
  show Fin _ _ _ _ _ _ _ (T102.setTop (mkF m 8 #[.val (.ref a), .val (.ref x), .val (.int 0), .unset, .unset, .unset] [(.int (Int32.ofNat ([u0, u1] : List Int32).length)), (.int 2)]))
  refine Fin.by (fun tt_ kk_ => XS.icmpYes X102.here hx rfl (pc0 := 8) (pc' := 13) rfl (hb hby d_prog_114_method_7_8) rfl (teq (rfl : (2 : Int32) = (Int32.ofNat ([u0, u1] : List Int32).length))).1 (by decide) (by decide) kk_) ?_
  refine Fin.by (fun tt_ kk_ => XS.iconst X102.here hx rfl (hb hby d_prog_114_method_7_13) (XS.istoreN X102.here hx rfl (hb hby d_prog_114_method_7_14) rfl (l' := #[.val (.ref a), .val (.ref x), .val (.int 0), .val (.int 0), .unset, .unset]) rfl (XS.iloadN X102.here hx rfl (hb hby d_prog_114_method_7_15) rfl (XS.aloadN X102.here hx rfl (hb hby d_prog_114_method_7_16) rfl rfl kk_)))) ?_
  obtain ⟨T103, X103, e103, st103⟩ := getF X102 hx hZ hown (host := "") (Or.inl (w_ hw 42 rfl)) Via.refl e102 Fl (g := (mkF m 17 #[.val (.ref a), .val (.ref x), .val (.int 0), .val (.int 0), .unset, .unset] [(.ref a), (.int 0)])) rfl rfl (hb hby d_prog_114_method_7_17)
  refine Fin.by (fun tt_ kk_ => st103 tt_ kk_) ?_
  show Fin _ _ _ _ _ _ _ (T103.setTop (mkF m 20 #[.val (.ref a), .val (.ref x), .val (.int 0), .val (.int 0), .unset, .unset] [(.int 2), (.int 0)]))
  refine Fin.by (fun tt_ kk_ => XS.icmpNo X103.here hx rfl (hb hby d_prog_114_method_7_20) rfl (tlt (by decide : (0 : Int32) < (2 : Int32))).2.1 kk_) ?_
  refine Fin.by (fun tt_ kk_ => XS.aloadN X103.here hx rfl (hb hby d_prog_114_method_7_23) rfl rfl kk_) ?_
  obtain ⟨T104, X104, e104, st104⟩ := getF X103 hx hZ hown (host := "") (Or.inl (w_ hw 35 rfl)) Via.refl e103 Fc (g := (mkF m 24 #[.val (.ref a), .val (.ref x), .val (.int 0), .val (.int 0), .unset, .unset] [(.ref a)])) rfl rfl (hb hby d_prog_114_method_7_24)
  refine Fin.by (fun tt_ kk_ => st104 tt_ kk_) ?_
  refine Fin.by (fun tt_ kk_ => XS.iloadN X104.here hx rfl (hb hby d_prog_114_method_7_27) rfl kk_) ?_
  obtain ⟨cl105, Ar105, q105, S105, N105, H105, G105⟩ := id Ak
  have hin105 : ¬ ((0 : Int32) < 0 ∨ cl105.slots.size ≤ (0 : Int32).toNatClampNeg) := within (show (0 : Int32) = Int32.ofNat 0 from rfl) (by rw [S105]; omega) (by rw [S105]; exact own_clamp _)
  refine Fin.by (fun tt_ kk_ => X104.caload hx (j := (0 : Int32)) (v := (.int u0)) (by rw [e104]; exact Ar105.1) (State.isArrayOf_alike hZ.alike Ar105.2.1) Ar105.2.2 hin105 (Has.at H105 hin105 (by rw [show (0 : Int32).toNatClampNeg = 0 from by decide]; exact hg0)) (g := (mkF m 28 #[.val (.ref a), .val (.ref x), .val (.int 0), .val (.int 0), .unset, .unset] [(.int 0), (.ref b)])) rfl rfl (hb hby d_prog_114_method_7_28) _ kk_) ?_
  refine Fin.by (fun tt_ kk_ => XS.istore X104.here hx rfl (hb hby d_prog_114_method_7_29) rfl (l' := #[.val (.ref a), .val (.ref x), .val (.int 0), .val (.int 0), .val (.int u0), .unset]) rfl (XS.iloadN X104.here hx rfl (hb hby d_prog_114_method_7_31) rfl kk_)) ?_
  show Fin _ _ _ _ _ _ _ (T104.setTop (mkF m 32 #[.val (.ref a), .val (.ref x), .val (.int 0), .val (.int 0), .val (.int u0), .unset] [(.int 0)]))
  refine Fin.by (fun tt_ kk_ => XS.ifYes X104.here hx rfl (pc0 := 32) (pc' := 61) rfl (hb hby d_prog_114_method_7_32) rfl ((if0 _ _).trans (teq (rfl : (0 : Int32) = (0 : Int32))).1) (by decide) (by decide) kk_) ?_
  refine Fin.by (fun tt_ kk_ => XS.iload X104.here hx rfl (hb hby d_prog_114_method_7_61) rfl (XS.istore X104.here hx rfl (hb hby d_prog_114_method_7_63) rfl (l' := #[.val (.ref a), .val (.ref x), .val (.int 0), .val (.int 0), .val (.int u0), .val (.int u0)]) rfl (XS.iload X104.here hx rfl (hb hby d_prog_114_method_7_65) rfl (XS.aloadN X104.here hx rfl (hb hby d_prog_114_method_7_67) rfl rfl (XS.iloadN X104.here hx rfl (hb hby d_prog_114_method_7_68) rfl kk_))))) ?_
  obtain ⟨cq106, kq106, qa106, qb106, qc106⟩ := isOf hZ e104 E1
  obtain ⟨v106, _, ⟨T106, L106, k106, n106⟩, -, X106, ⟨Lc106, hQ106, l106, y106, z106⟩, st106⟩ := X104.virtualBack hx (y := y_21) (z := y_21) hown (mvT hZ (w_ hw 98 rfl)) (mvT hZ (w_ hw 99 rfl)) (notFace_of_selects (args := #[]) (mvT hZ (w_ hw 101 rfl))) (mvT hZ (w_ hw 101 rfl)) (mvT hZ (w_ hw 100 rfl)) (by decide) (backOf (W := 1) (rm_chA l Z a0 hw [] x t kb N2 (vs : List Value) ([u0, u1] : List Int32) cd 0 (0 : Int32) G1 G9 h0 n0 Z0 hc hb3 l2 (Nat.le_of_ble_eq_true rfl) rfl E1 F0 F1 A0 S1 P1 S6 S7 S8 S9 r9 OL) hZ (w_ hw 102 rfl) (w_ hw 8 rfl) (by decide) (by decide)) qa106 qc106 (g := (mkF m 69 #[.val (.ref a), .val (.ref x), .val (.int 0), .val (.int 0), .val (.int u0), .val (.int u0)] [(.int 0), (.ref x), (.int u0)])) rfl (by rw [hml]; rfl) (Steps.refl _) (argsL := [(.int 0)]) (rest := [(.int u0)]) (lenOf pd_407 rfl) rfl (by show 2 * 0 + _ ≤ _; exact Nat.le_of_eq rfl) (hb hby d_prog_114_method_7_69) (fun _ _ => ⟨rfl, e104, (by decide : 0 + 0 ≤ _), (by decide : 0 + 0 ≤ _)⟩)
  dsimp only [Pt.U, Pt.locs, Pt.cells, Pt.slots] at X106 l106 y106 z106 st106 hQ106
  subst l106 y106 z106
  obtain ⟨rfl, Nq106, e106_⟩ := hQ106
  have N106_ := Fr.app N102_ Nq106
  refine Fin.byS st106 ?_
  have e106 := e106_
  show Fin _ _ _ _ _ _ _ (T106.setTop (mkF m 72 #[.val (.ref a), .val (.ref x), .val (.int 0), .val (.int 0), .val (.int u0), .val (.int u0)] [(.int (([u0, u1] : List Int32).getD 0 0)), (.int u0)]))
  refine Fin.by (fun tt_ kk_ => XS.icmpYes X106.here hx rfl (pc0 := 72) (pc' := 77) rfl (hb hby d_prog_114_method_7_72) rfl (teq (rfl : u0 = (([u0, u1] : List Int32).getD 0 0))).1 (by decide) (by decide) kk_) ?_
  refine Fin.by (fun tt_ kk_ => XS.iinc X106.here hx rfl (hb hby d_prog_114_method_7_77) rfl (l' := #[.val (.ref a), .val (.ref x), .val (.int 0), .val (.int 1), .val (.int u0), .val (.int u0)]) rfl (XS.goto X106.here hx rfl (pc0 := 80) (pc' := 15) rfl (hb hby d_prog_114_method_7_80) (by decide) (by decide) (XS.iloadN X106.here hx rfl (hb hby d_prog_114_method_7_15) rfl (XS.aloadN X106.here hx rfl (hb hby d_prog_114_method_7_16) rfl rfl kk_)))) ?_
  obtain ⟨T107, X107, e107, st107⟩ := getF X106 hx hZ hown (host := "") (Or.inl (w_ hw 42 rfl)) Via.refl e106 Fl (g := (mkF m 17 #[.val (.ref a), .val (.ref x), .val (.int 0), .val (.int 1), .val (.int u0), .val (.int u0)] [(.ref a), (.int 1)])) rfl rfl (hb hby d_prog_114_method_7_17)
  refine Fin.by (fun tt_ kk_ => st107 tt_ kk_) ?_
  show Fin _ _ _ _ _ _ _ (T107.setTop (mkF m 20 #[.val (.ref a), .val (.ref x), .val (.int 0), .val (.int 1), .val (.int u0), .val (.int u0)] [(.int 2), (.int 1)]))
  refine Fin.by (fun tt_ kk_ => XS.icmpNo X107.here hx rfl (hb hby d_prog_114_method_7_20) rfl (tlt (by decide : (1 : Int32) < (2 : Int32))).2.1 kk_) ?_
  refine Fin.by (fun tt_ kk_ => XS.aloadN X107.here hx rfl (hb hby d_prog_114_method_7_23) rfl rfl kk_) ?_
  obtain ⟨T108, X108, e108, st108⟩ := getF X107 hx hZ hown (host := "") (Or.inl (w_ hw 35 rfl)) Via.refl e107 Fc (g := (mkF m 24 #[.val (.ref a), .val (.ref x), .val (.int 0), .val (.int 1), .val (.int u0), .val (.int u0)] [(.ref a)])) rfl rfl (hb hby d_prog_114_method_7_24)
  refine Fin.by (fun tt_ kk_ => st108 tt_ kk_) ?_
  refine Fin.by (fun tt_ kk_ => XS.iloadN X108.here hx rfl (hb hby d_prog_114_method_7_27) rfl kk_) ?_
  obtain ⟨cl109, Ar109, q109, S109, N109, H109, G109⟩ := id Ak
  have hin109 : ¬ ((1 : Int32) < 0 ∨ cl109.slots.size ≤ (1 : Int32).toNatClampNeg) := within (show (1 : Int32) = Int32.ofNat 1 from rfl) (by rw [S109]; omega) (by rw [S109]; exact own_clamp _)
  refine Fin.by (fun tt_ kk_ => X108.caload hx (j := (1 : Int32)) (v := (.int u1)) (by rw [e108]; exact Ar109.1) (State.isArrayOf_alike hZ.alike Ar109.2.1) Ar109.2.2 hin109 (Has.at H109 hin109 (by rw [show (1 : Int32).toNatClampNeg = 1 from by decide]; exact hg1)) (g := (mkF m 28 #[.val (.ref a), .val (.ref x), .val (.int 0), .val (.int 1), .val (.int u0), .val (.int u0)] [(.int 1), (.ref b)])) rfl rfl (hb hby d_prog_114_method_7_28) _ kk_) ?_
  refine Fin.by (fun tt_ kk_ => XS.istore X108.here hx rfl (hb hby d_prog_114_method_7_29) rfl (l' := #[.val (.ref a), .val (.ref x), .val (.int 0), .val (.int 1), .val (.int u1), .val (.int u0)]) rfl (XS.iloadN X108.here hx rfl (hb hby d_prog_114_method_7_31) rfl kk_)) ?_
  show Fin _ _ _ _ _ _ _ (T108.setTop (mkF m 32 #[.val (.ref a), .val (.ref x), .val (.int 0), .val (.int 1), .val (.int u1), .val (.int u0)] [(.int 0)]))
  refine Fin.by (fun tt_ kk_ => XS.ifYes X108.here hx rfl (pc0 := 32) (pc' := 61) rfl (hb hby d_prog_114_method_7_32) rfl ((if0 _ _).trans (teq (rfl : (0 : Int32) = (0 : Int32))).1) (by decide) (by decide) kk_) ?_
  refine Fin.by (fun tt_ kk_ => XS.iload X108.here hx rfl (hb hby d_prog_114_method_7_61) rfl (XS.istore X108.here hx rfl (hb hby d_prog_114_method_7_63) rfl (l' := #[.val (.ref a), .val (.ref x), .val (.int 0), .val (.int 1), .val (.int u1), .val (.int u1)]) rfl (XS.iload X108.here hx rfl (hb hby d_prog_114_method_7_65) rfl (XS.aloadN X108.here hx rfl (hb hby d_prog_114_method_7_67) rfl rfl (XS.iloadN X108.here hx rfl (hb hby d_prog_114_method_7_68) rfl kk_))))) ?_
  obtain ⟨cq110, kq110, qa110, qb110, qc110⟩ := isOf hZ e108 E1
  obtain ⟨v110, _, ⟨T110, L110, k110, n110⟩, -, X110, ⟨Lc110, hQ110, l110, y110, z110⟩, st110⟩ := X108.virtualBack hx (y := y_21) (z := y_21) hown (mvT hZ (w_ hw 98 rfl)) (mvT hZ (w_ hw 99 rfl)) (notFace_of_selects (args := #[]) (mvT hZ (w_ hw 101 rfl))) (mvT hZ (w_ hw 101 rfl)) (mvT hZ (w_ hw 100 rfl)) (by decide) (backOf (W := 1) (rm_chA l Z a0 hw [] x t kb N2 (vs : List Value) ([u0, u1] : List Int32) cd 1 (1 : Int32) G1 G9 h0 n0 Z0 hc hb3 l2 (Nat.le_of_ble_eq_true rfl) rfl E1 F0 F1 A0 S1 P1 S6 S7 S8 S9 r9 OL) hZ (w_ hw 102 rfl) (w_ hw 8 rfl) (by decide) (by decide)) qa110 qc110 (g := (mkF m 69 #[.val (.ref a), .val (.ref x), .val (.int 0), .val (.int 1), .val (.int u1), .val (.int u1)] [(.int 1), (.ref x), (.int u1)])) rfl (by rw [hml]; rfl) (Steps.refl _) (argsL := [(.int 1)]) (rest := [(.int u1)]) (lenOf pd_407 rfl) rfl (by show 2 * 0 + _ ≤ _; exact Nat.le_of_eq rfl) (hb hby d_prog_114_method_7_69) (fun _ _ => ⟨rfl, e108, (by decide : 0 + 0 ≤ _), (by decide : 0 + 0 ≤ _)⟩)
  dsimp only [Pt.U, Pt.locs, Pt.cells, Pt.slots] at X110 l110 y110 z110 st110 hQ110
  subst l110 y110 z110
  obtain ⟨rfl, Nq110, e110_⟩ := hQ110
  have N110_ := Fr.app N106_ Nq110
  refine Fin.byS st110 ?_
  have e110 := e110_
  show Fin _ _ _ _ _ _ _ (T110.setTop (mkF m 72 #[.val (.ref a), .val (.ref x), .val (.int 0), .val (.int 1), .val (.int u1), .val (.int u1)] [(.int (([u0, u1] : List Int32).getD 1 0)), (.int u1)]))
  refine Fin.by (fun tt_ kk_ => XS.icmpYes X110.here hx rfl (pc0 := 72) (pc' := 77) rfl (hb hby d_prog_114_method_7_72) rfl (teq (rfl : u1 = (([u0, u1] : List Int32).getD 1 0))).1 (by decide) (by decide) kk_) ?_
  refine Fin.by (fun tt_ kk_ => XS.iinc X110.here hx rfl (hb hby d_prog_114_method_7_77) rfl (l' := #[.val (.ref a), .val (.ref x), .val (.int 0), .val (.int 2), .val (.int u1), .val (.int u1)]) rfl (XS.goto X110.here hx rfl (pc0 := 80) (pc' := 15) rfl (hb hby d_prog_114_method_7_80) (by decide) (by decide) (XS.iloadN X110.here hx rfl (hb hby d_prog_114_method_7_15) rfl (XS.aloadN X110.here hx rfl (hb hby d_prog_114_method_7_16) rfl rfl kk_)))) ?_
  obtain ⟨T111, X111, e111, st111⟩ := getF X110 hx hZ hown (host := "") (Or.inl (w_ hw 42 rfl)) Via.refl e110 Fl (g := (mkF m 17 #[.val (.ref a), .val (.ref x), .val (.int 0), .val (.int 2), .val (.int u1), .val (.int u1)] [(.ref a), (.int 2)])) rfl rfl (hb hby d_prog_114_method_7_17)
  refine Fin.by (fun tt_ kk_ => st111 tt_ kk_) ?_
  show Fin _ _ _ _ _ _ _ (T111.setTop (mkF m 20 #[.val (.ref a), .val (.ref x), .val (.int 0), .val (.int 2), .val (.int u1), .val (.int u1)] [(.int 2), (.int 2)]))
  refine Fin.by (fun tt_ kk_ => XS.icmpYes X111.here hx rfl (pc0 := 20) (pc' := 83) rfl (hb hby d_prog_114_method_7_20) rfl (flt (by decide : ¬ (2 : Int32) < (2 : Int32))).2.1 (by decide) (by decide) kk_) ?_
  refine Fin.by (fun tt_ kk_ => XS.iconst X111.here hx rfl (hb hby d_prog_114_method_7_83) kk_) ?_
  show Fin _ _ _ _ _ _ _ (T111.setTop (mkF m 84 #[.val (.ref a), .val (.ref x), .val (.int 0), .val (.int 2), .val (.int u1), .val (.int u1)] [(.int 1)]))
  exact Fin.ret (v := some (.int (nar .boolean (1 : Int32)))) X111 (fun h => by rw [Bd.returns] at h; cases h) Bd.notSynchronized (by rw [e111]; exact ⟨rfl, N110_, rfl⟩) (by decide) (by decide) (fun fs hr => retN X111 hx (t := .boolean) Bd.returns (by simp) (hb hby d_prog_114_method_7_84) hr)
def Q_isx2 (Z : State) (a : Addr) (b : Addr) (kk : ClassId) (KN : Int32) (v2 : List Value) (u0 : Int32) (u1 : Int32) (x : Addr) (t : Addr) (kb : ClassId) (N2 : Int32) (vs : List Value) (cd : Int32) (G1 : Int32) (G9 : Value) (h0 : Heap) (n0 : Nat) (vv_ : Option Value) (hh_ : Heap) (LL_ : List Loc) : Prop := vv_ = some (.int (nar .boolean (nar .boolean (1 : Int32)))) ∧ Fr n0 LL_ ∧ hh_ = h0
set_option maxRecDepth 65536 in
set_option maxHeartbeats 40000000 in
theorem rm_isx2 (l : Launch) (Z : State) (a0 : Array Value) (hw : ∀ d ∈ tables_1, d.before a0 Z = true) (ws : List Jvm.Cond) (a : Addr) (b : Addr) (kk : ClassId) (KN : Int32) (v2 : List Value) (u0 : Int32) (u1 : Int32) (x : Addr) (t : Addr) (kb : ClassId) (N2 : Int32) (vs : List Value) (cd : Int32) (G1 : Int32) (G9 : Value) (h0 : Heap) (n0 : Nat) (Z0 : n0 ≤ h0.size) (hc : StrChars.Road.CodA ([u0, u1] : List Int32) cd N2 vs) (hb3 : ∀ c ∈ ([u0, u1] : List Int32), ¬ c < 0 ∧ ¬ (65535 : Int32) < c) (l2 : List.length ([u0, u1] : List Int32) ≤ 4000) (hg0 : v2.getD 0 (.int 0) = .int u0) (hg1 : v2.getD 1 (.int 0) = .int u1) (hkn : 2 ≤ KN.toNatClampNeg) (E0 : Exa Z h0 a "com/example/colonnade/colonnade/WordBuffer") (Fc : Fld Z h0 a "com/example/colonnade/colonnade/WordBuffer" "chars" "[C" (.ref b)) (Fl : Fld Z h0 a "com/example/colonnade/colonnade/WordBuffer" "length" "I" (.int (2 : Int32))) (Ak : Arv Z h0 b kk .char KN v2 (.int (0 : Int32))) (E1 : Exa Z h0 x "java/lang/String") (F0 : Fld Z h0 x "java/lang/String" "value" "[B" (.ref t)) (F1 : Fld Z h0 x "java/lang/String" "coder" "B" (.int cd)) (A0 : Arv Z h0 t kb .byte N2 vs (.int 0)) (S1 : Sta Z Z.heap "java/lang/String" "COMPACT_STRINGS" "Z" (.int G1)) (P1 : ¬ G1 = 0) (S6 : Sta Z Z.heap "java/lang/StringUTF16" "$assertionsDisabled" "Z" (.int (1 : Int32))) (S7 : Sta Z Z.heap "java/lang/StringUTF16" "HI_BYTE_SHIFT" "I" (.int (0 : Int32))) (S8 : Sta Z Z.heap "java/lang/StringUTF16" "LO_BYTE_SHIFT" "I" (.int (8 : Int32))) (S9 : Sta Z Z.heap "jdk/internal/util/Preconditions" "SIOOBE_FORMATTER" "Ljava/util/function/BiFunction;" G9) (r9 : G9.isRef = true) (OL : Old Z n0 h0) :
    MetFree l (⟨"com/example/colonnade/colonnade/WordBuffer", "isExactly", "(Ljava/lang/String;)Z"⟩ : MethodName) (head1 (Jvm.Cond.code (⟨"com/example/colonnade/colonnade/WordBuffer", "isExactly", "(Ljava/lang/String;)Z"⟩ : MethodName) prog_114_method_6_code 2 (some .boolean) :: ws) ({ frames := 6, cells := 0, slots := 0, locals := 84 } : Room)) (fun aa_ U => aa_ = #[(.ref a), (.ref x)] ∧ Z.Warmed39 U.vm ∧ U.heap = h0) (fun _ _ _ _ _ => True) (fun _ U o U' => ∃ vv_ LL_, o = .returned vv_ ∧ Q_isx2 Z a b kk KN v2 u0 u1 x t kb N2 vs cd G1 G9 h0 n0 vv_ U'.heap LL_ ∧ FrameEnd U o U' LL_ 0 0) := by
  refine MetFree.of_bodySF (plainFor_of_name pn_com_example_colonnade_colonnade_WordBuffer) hisR ?_
  intro p e s m args below meth c s₁ Bd hml0 hP hK
  obtain ⟨rfl, hZ, hh⟩ := hP
  have hx := Bd.exec
  have hby := Bd.bytes
  have hml : c.maxLocals = 2 := hml0
  have hown : s.vm.findClass "com/example/colonnade/colonnade/WordBuffer" = some m.cls := findClass_of_methodNamed Bd.named
  have hnm := (name_of_methodNamed Bd.named Bd.method).1
  have X0 : Stand p l e ({ frames := 6, cells := 0, slots := 0, locals := 84 } : Room) s m #[(.ref a), (.ref x)] below meth c s₁ [] 0 0 := Stand.of_body Bd
  have e0 : s₁.heap = h0 := by rw [← hh, Bd.state]; rfl
  have N0 := Fr.nil n0
  have ef : entryFrame m #[(.ref a), (.ref x)] 2 = mkF m 0 #[.val (.ref a), .val (.ref x)] [] := by first | (simp [entryFrame, mkF, argsToLocals, Value.category]; done) | rfl
  refine Fin.start (Q := Q_isx2 Z a b kk KN v2 u0 u1 x t kb N2 vs cd G1 G9 h0 n0) ef ?_
  refine Fin.by (fun tt_ kk_ => XS.aloadN X0.here hx rfl (hb hby d_prog_114_method_6_0) rfl rfl (XS.aloadN X0.here hx rfl (hb hby d_prog_114_method_6_1) rfl rfl (XS.iconst X0.here hx rfl (hb hby d_prog_114_method_6_2) kk_))) ?_
  obtain ⟨cq101, qa101, qb101⟩ := E0.cell
  obtain ⟨v101, _, ⟨T101, L101, k101, n101⟩, -, X101, ⟨Lc101, hQ101, l101, y101, z101⟩, st101⟩ := X0.privateBack hx (y := y_19) hown (mvT hZ (w_ hw 54 rfl)) (mvT hZ (w_ hw 55 rfl)) (own_selpriv (z := y_20) (y := y_19) (mvT hZ (w_ hw 40 rfl)) rfl (Cond.privateMethod_at (mvP hZ (w_ hw 56 rfl) (args := #[]))) (mvT hZ (w_ hw 55 rfl)) (by decide)) (Cond.privateMethod_at (mvP hZ (w_ hw 56 rfl) (args := #[]))) (mvT hZ (w_ hw 57 rfl)) (by decide) (backOf (W := 0) (rm_mat2 l Z a0 hw [] a b kk KN (v2 : List Value) u0 u1 x t kb N2 (vs : List Value) cd G1 G9 h0 n0 Z0 hc hb3 l2 hg0 hg1 hkn E0 Fc Fl Ak E1 F0 F1 A0 S1 P1 S6 S7 S8 S9 r9 OL) hZ (w_ hw 57 rfl) (w_ hw 30 rfl) (by decide) (by decide)) (g := (mkF m 3 #[.val (.ref a), .val (.ref x)] [(.int 0), (.ref x), (.ref a)])) rfl (by rw [hml]; rfl) (Steps.refl _) (a := a) (by rw [e0]; exact qa101) qb101 (argsL := [(.ref x), (.int 0)]) (rest := []) (lenOf pd_384 rfl) rfl (by show 2 * 0 + _ ≤ _; exact Nat.le_of_eq rfl) (hb hby d_prog_114_method_6_3) (fun _ _ => ⟨rfl, e0, (by decide : 0 + 0 ≤ _), (by decide : 0 + 0 ≤ _)⟩)
  dsimp only [Pt.U, Pt.locs, Pt.cells, Pt.slots] at X101 l101 y101 z101 st101 hQ101
  subst l101 y101 z101
  obtain ⟨rfl, Nq101, e101_⟩ := hQ101
  have N101_ := Fr.app N0 Nq101
  refine Fin.byS st101 ?_
  have e101 := e101_
  show Fin _ _ _ _ _ _ _ (T101.setTop (mkF m 6 #[.val (.ref a), .val (.ref x)] [(.int (nar .boolean 1))]))
  exact Fin.ret (v := some (.int (nar .boolean (nar .boolean (1 : Int32))))) X101 (fun h => by rw [Bd.returns] at h; cases h) Bd.notSynchronized (by rw [e101]; exact ⟨rfl, N101_, rfl⟩) (by decide) (by decide) (fun fs hr => retN X101 hx (t := .boolean) Bd.returns (by simp) (hb hby d_prog_114_method_6_6) hr)
def Q_mat3 (Z : State) (a : Addr) (b : Addr) (kk : ClassId) (KN : Int32) (v2 : List Value) (u0 : Int32) (u1 : Int32) (u2 : Int32) (x : Addr) (t : Addr) (kb : ClassId) (N2 : Int32) (vs : List Value) (cd : Int32) (G1 : Int32) (G9 : Value) (h0 : Heap) (n0 : Nat) (vv_ : Option Value) (hh_ : Heap) (LL_ : List Loc) : Prop := vv_ = some (.int (nar .boolean (1 : Int32))) ∧ Fr n0 LL_ ∧ hh_ = h0
set_option maxRecDepth 65536 in
set_option maxHeartbeats 40000000 in
theorem rm_mat3 (l : Launch) (Z : State) (a0 : Array Value) (hw : ∀ d ∈ tables_1, d.before a0 Z = true) (ws : List Jvm.Cond) (a : Addr) (b : Addr) (kk : ClassId) (KN : Int32) (v2 : List Value) (u0 : Int32) (u1 : Int32) (u2 : Int32) (x : Addr) (t : Addr) (kb : ClassId) (N2 : Int32) (vs : List Value) (cd : Int32) (G1 : Int32) (G9 : Value) (h0 : Heap) (n0 : Nat) (Z0 : n0 ≤ h0.size) (hc : StrChars.Road.CodA ([u0, u1, u2] : List Int32) cd N2 vs) (hb3 : ∀ c ∈ ([u0, u1, u2] : List Int32), ¬ c < 0 ∧ ¬ (65535 : Int32) < c) (l2 : List.length ([u0, u1, u2] : List Int32) ≤ 4000) (hg0 : v2.getD 0 (.int 0) = .int u0) (hg1 : v2.getD 1 (.int 0) = .int u1) (hg2 : v2.getD 2 (.int 0) = .int u2) (hkn : 3 ≤ KN.toNatClampNeg) (E0 : Exa Z h0 a "com/example/colonnade/colonnade/WordBuffer") (Fc : Fld Z h0 a "com/example/colonnade/colonnade/WordBuffer" "chars" "[C" (.ref b)) (Fl : Fld Z h0 a "com/example/colonnade/colonnade/WordBuffer" "length" "I" (.int (3 : Int32))) (Ak : Arv Z h0 b kk .char KN v2 (.int (0 : Int32))) (E1 : Exa Z h0 x "java/lang/String") (F0 : Fld Z h0 x "java/lang/String" "value" "[B" (.ref t)) (F1 : Fld Z h0 x "java/lang/String" "coder" "B" (.int cd)) (A0 : Arv Z h0 t kb .byte N2 vs (.int 0)) (S1 : Sta Z Z.heap "java/lang/String" "COMPACT_STRINGS" "Z" (.int G1)) (P1 : ¬ G1 = 0) (S6 : Sta Z Z.heap "java/lang/StringUTF16" "$assertionsDisabled" "Z" (.int (1 : Int32))) (S7 : Sta Z Z.heap "java/lang/StringUTF16" "HI_BYTE_SHIFT" "I" (.int (0 : Int32))) (S8 : Sta Z Z.heap "java/lang/StringUTF16" "LO_BYTE_SHIFT" "I" (.int (8 : Int32))) (S9 : Sta Z Z.heap "jdk/internal/util/Preconditions" "SIOOBE_FORMATTER" "Ljava/util/function/BiFunction;" G9) (r9 : G9.isRef = true) (OL : Old Z n0 h0) :
    MetFree l (⟨"com/example/colonnade/colonnade/WordBuffer", "matches", "(Ljava/lang/String;Z)Z"⟩ : MethodName) (head1 (Jvm.Cond.code (⟨"com/example/colonnade/colonnade/WordBuffer", "matches", "(Ljava/lang/String;Z)Z"⟩ : MethodName) prog_114_method_7_code 6 (some .boolean) :: ws) ({ frames := 5, cells := 0, slots := 0, locals := 67 } : Room)) (fun aa_ U => aa_ = #[(.ref a), (.ref x), (.int (0 : Int32))] ∧ Z.Warmed39 U.vm ∧ U.heap = h0) (fun _ _ _ _ _ => True) (fun _ U o U' => ∃ vv_ LL_, o = .returned vv_ ∧ Q_mat3 Z a b kk KN v2 u0 u1 u2 x t kb N2 vs cd G1 G9 h0 n0 vv_ U'.heap LL_ ∧ FrameEnd U o U' LL_ 0 0) := by
  refine MetFree.of_bodySF (plainFor_of_name pn_com_example_colonnade_colonnade_WordBuffer) hisR ?_
  intro p e s m args below meth c s₁ Bd hml0 hP hK
  obtain ⟨rfl, hZ, hh⟩ := hP
  have hx := Bd.exec
  have hby := Bd.bytes
  have hml : c.maxLocals = 6 := hml0
  have hown : s.vm.findClass "com/example/colonnade/colonnade/WordBuffer" = some m.cls := findClass_of_methodNamed Bd.named
  have hnm := (name_of_methodNamed Bd.named Bd.method).1
  have X0 : Stand p l e ({ frames := 5, cells := 0, slots := 0, locals := 67 } : Room) s m #[(.ref a), (.ref x), (.int (0 : Int32))] below meth c s₁ [] 0 0 := Stand.of_body Bd
  have e0 : s₁.heap = h0 := by rw [← hh, Bd.state]; rfl
  have N0 := Fr.nil n0
  have ef : entryFrame m #[(.ref a), (.ref x), (.int (0 : Int32))] 6 = mkF m 0 #[.val (.ref a), .val (.ref x), .val (.int (0 : Int32)), .unset, .unset, .unset] [] := by first | (simp [entryFrame, mkF, argsToLocals, Value.category]; done) | rfl
  refine Fin.start (Q := Q_mat3 Z a b kk KN v2 u0 u1 u2 x t kb N2 vs cd G1 G9 h0 n0) ef ?_
  refine Fin.by (fun tt_ kk_ => XS.aloadN X0.here hx rfl (hb hby d_prog_114_method_7_0) rfl rfl kk_) ?_
  obtain ⟨T101, X101, e101, st101⟩ := getF X0 hx hZ hown (host := "") (Or.inl (w_ hw 42 rfl)) Via.refl e0 Fl (g := (mkF m 1 #[.val (.ref a), .val (.ref x), .val (.int 0), .unset, .unset, .unset] [(.ref a)])) rfl rfl (hb hby d_prog_114_method_7_1)
  refine Fin.by (fun tt_ kk_ => st101 tt_ kk_) ?_
  refine Fin.by (fun tt_ kk_ => XS.aloadN X101.here hx rfl (hb hby d_prog_114_method_7_4) rfl rfl kk_) ?_
  obtain ⟨cq102, kq102, qa102, qb102, qc102⟩ := isOf hZ e101 E1
  obtain ⟨v102, _, ⟨T102, L102, k102, n102⟩, -, X102, ⟨Lc102, hQ102, l102, y102, z102⟩, st102⟩ := X101.virtualBack hx (y := y_18) (z := y_18) hown (mvT hZ (w_ hw 58 rfl)) (mvT hZ (w_ hw 59 rfl)) (notFace_of_selects (args := #[]) (mvT hZ (w_ hw 61 rfl))) (mvT hZ (w_ hw 61 rfl)) (mvT hZ (w_ hw 60 rfl)) (by decide) (backOf (W := 1) (rm_sle l Z a0 hw [] x t kb N2 (vs : List Value) ([u0, u1, u2] : List Int32) cd G1 h0 n0 Z0 hc l2 E1 F0 F1 A0 S1 P1 OL) hZ (w_ hw 62 rfl) (w_ hw 8 rfl) (by decide) (by decide)) qa102 qc102 (g := (mkF m 5 #[.val (.ref a), .val (.ref x), .val (.int 0), .unset, .unset, .unset] [(.ref x), (.int 3)])) rfl (by rw [hml]; rfl) (Steps.refl _) (argsL := []) (rest := [(.int 3)]) (lenOf pd_376 rfl) rfl (by show 2 * 0 + _ ≤ _; exact Nat.le_of_eq rfl) (hb hby d_prog_114_method_7_5) (fun _ _ => ⟨rfl, e101, (by decide : 0 + 0 ≤ _), (by decide : 0 + 0 ≤ _)⟩)
  dsimp only [Pt.U, Pt.locs, Pt.cells, Pt.slots] at X102 l102 y102 z102 st102 hQ102
  subst l102 y102 z102
  obtain ⟨rfl, Nq102, e102_⟩ := hQ102
  have N102_ := Fr.app N0 Nq102
  refine Fin.byS st102 ?_
  have e102 := e102_
  show Fin _ _ _ _ _ _ _ (T102.setTop (mkF m 8 #[.val (.ref a), .val (.ref x), .val (.int 0), .unset, .unset, .unset] [(.int (Int32.ofNat ([u0, u1, u2] : List Int32).length)), (.int 3)]))
  refine Fin.by (fun tt_ kk_ => XS.icmpYes X102.here hx rfl (pc0 := 8) (pc' := 13) rfl (hb hby d_prog_114_method_7_8) rfl (teq (rfl : (3 : Int32) = (Int32.ofNat ([u0, u1, u2] : List Int32).length))).1 (by decide) (by decide) kk_) ?_
  refine Fin.by (fun tt_ kk_ => XS.iconst X102.here hx rfl (hb hby d_prog_114_method_7_13) (XS.istoreN X102.here hx rfl (hb hby d_prog_114_method_7_14) rfl (l' := #[.val (.ref a), .val (.ref x), .val (.int 0), .val (.int 0), .unset, .unset]) rfl (XS.iloadN X102.here hx rfl (hb hby d_prog_114_method_7_15) rfl (XS.aloadN X102.here hx rfl (hb hby d_prog_114_method_7_16) rfl rfl kk_)))) ?_
  obtain ⟨T103, X103, e103, st103⟩ := getF X102 hx hZ hown (host := "") (Or.inl (w_ hw 42 rfl)) Via.refl e102 Fl (g := (mkF m 17 #[.val (.ref a), .val (.ref x), .val (.int 0), .val (.int 0), .unset, .unset] [(.ref a), (.int 0)])) rfl rfl (hb hby d_prog_114_method_7_17)
  refine Fin.by (fun tt_ kk_ => st103 tt_ kk_) ?_
  show Fin _ _ _ _ _ _ _ (T103.setTop (mkF m 20 #[.val (.ref a), .val (.ref x), .val (.int 0), .val (.int 0), .unset, .unset] [(.int 3), (.int 0)]))
  refine Fin.by (fun tt_ kk_ => XS.icmpNo X103.here hx rfl (hb hby d_prog_114_method_7_20) rfl (tlt (by decide : (0 : Int32) < (3 : Int32))).2.1 kk_) ?_
  refine Fin.by (fun tt_ kk_ => XS.aloadN X103.here hx rfl (hb hby d_prog_114_method_7_23) rfl rfl kk_) ?_
  obtain ⟨T104, X104, e104, st104⟩ := getF X103 hx hZ hown (host := "") (Or.inl (w_ hw 35 rfl)) Via.refl e103 Fc (g := (mkF m 24 #[.val (.ref a), .val (.ref x), .val (.int 0), .val (.int 0), .unset, .unset] [(.ref a)])) rfl rfl (hb hby d_prog_114_method_7_24)
  refine Fin.by (fun tt_ kk_ => st104 tt_ kk_) ?_
  refine Fin.by (fun tt_ kk_ => XS.iloadN X104.here hx rfl (hb hby d_prog_114_method_7_27) rfl kk_) ?_
  obtain ⟨cl105, Ar105, q105, S105, N105, H105, G105⟩ := id Ak
  have hin105 : ¬ ((0 : Int32) < 0 ∨ cl105.slots.size ≤ (0 : Int32).toNatClampNeg) := within (show (0 : Int32) = Int32.ofNat 0 from rfl) (by rw [S105]; omega) (by rw [S105]; exact own_clamp _)
  refine Fin.by (fun tt_ kk_ => X104.caload hx (j := (0 : Int32)) (v := (.int u0)) (by rw [e104]; exact Ar105.1) (State.isArrayOf_alike hZ.alike Ar105.2.1) Ar105.2.2 hin105 (Has.at H105 hin105 (by rw [show (0 : Int32).toNatClampNeg = 0 from by decide]; exact hg0)) (g := (mkF m 28 #[.val (.ref a), .val (.ref x), .val (.int 0), .val (.int 0), .unset, .unset] [(.int 0), (.ref b)])) rfl rfl (hb hby d_prog_114_method_7_28) _ kk_) ?_
  refine Fin.by (fun tt_ kk_ => XS.istore X104.here hx rfl (hb hby d_prog_114_method_7_29) rfl (l' := #[.val (.ref a), .val (.ref x), .val (.int 0), .val (.int 0), .val (.int u0), .unset]) rfl (XS.iloadN X104.here hx rfl (hb hby d_prog_114_method_7_31) rfl kk_)) ?_
  show Fin _ _ _ _ _ _ _ (T104.setTop (mkF m 32 #[.val (.ref a), .val (.ref x), .val (.int 0), .val (.int 0), .val (.int u0), .unset] [(.int 0)]))
  refine Fin.by (fun tt_ kk_ => XS.ifYes X104.here hx rfl (pc0 := 32) (pc' := 61) rfl (hb hby d_prog_114_method_7_32) rfl ((if0 _ _).trans (teq (rfl : (0 : Int32) = (0 : Int32))).1) (by decide) (by decide) kk_) ?_
  refine Fin.by (fun tt_ kk_ => XS.iload X104.here hx rfl (hb hby d_prog_114_method_7_61) rfl (XS.istore X104.here hx rfl (hb hby d_prog_114_method_7_63) rfl (l' := #[.val (.ref a), .val (.ref x), .val (.int 0), .val (.int 0), .val (.int u0), .val (.int u0)]) rfl (XS.iload X104.here hx rfl (hb hby d_prog_114_method_7_65) rfl (XS.aloadN X104.here hx rfl (hb hby d_prog_114_method_7_67) rfl rfl (XS.iloadN X104.here hx rfl (hb hby d_prog_114_method_7_68) rfl kk_))))) ?_
  obtain ⟨cq106, kq106, qa106, qb106, qc106⟩ := isOf hZ e104 E1
  obtain ⟨v106, _, ⟨T106, L106, k106, n106⟩, -, X106, ⟨Lc106, hQ106, l106, y106, z106⟩, st106⟩ := X104.virtualBack hx (y := y_21) (z := y_21) hown (mvT hZ (w_ hw 98 rfl)) (mvT hZ (w_ hw 99 rfl)) (notFace_of_selects (args := #[]) (mvT hZ (w_ hw 101 rfl))) (mvT hZ (w_ hw 101 rfl)) (mvT hZ (w_ hw 100 rfl)) (by decide) (backOf (W := 1) (rm_chA l Z a0 hw [] x t kb N2 (vs : List Value) ([u0, u1, u2] : List Int32) cd 0 (0 : Int32) G1 G9 h0 n0 Z0 hc hb3 l2 (Nat.le_of_ble_eq_true rfl) rfl E1 F0 F1 A0 S1 P1 S6 S7 S8 S9 r9 OL) hZ (w_ hw 102 rfl) (w_ hw 8 rfl) (by decide) (by decide)) qa106 qc106 (g := (mkF m 69 #[.val (.ref a), .val (.ref x), .val (.int 0), .val (.int 0), .val (.int u0), .val (.int u0)] [(.int 0), (.ref x), (.int u0)])) rfl (by rw [hml]; rfl) (Steps.refl _) (argsL := [(.int 0)]) (rest := [(.int u0)]) (lenOf pd_407 rfl) rfl (by show 2 * 0 + _ ≤ _; exact Nat.le_of_eq rfl) (hb hby d_prog_114_method_7_69) (fun _ _ => ⟨rfl, e104, (by decide : 0 + 0 ≤ _), (by decide : 0 + 0 ≤ _)⟩)
  dsimp only [Pt.U, Pt.locs, Pt.cells, Pt.slots] at X106 l106 y106 z106 st106 hQ106
  subst l106 y106 z106
  obtain ⟨rfl, Nq106, e106_⟩ := hQ106
  have N106_ := Fr.app N102_ Nq106
  refine Fin.byS st106 ?_
  have e106 := e106_
  show Fin _ _ _ _ _ _ _ (T106.setTop (mkF m 72 #[.val (.ref a), .val (.ref x), .val (.int 0), .val (.int 0), .val (.int u0), .val (.int u0)] [(.int (([u0, u1, u2] : List Int32).getD 0 0)), (.int u0)]))
  refine Fin.by (fun tt_ kk_ => XS.icmpYes X106.here hx rfl (pc0 := 72) (pc' := 77) rfl (hb hby d_prog_114_method_7_72) rfl (teq (rfl : u0 = (([u0, u1, u2] : List Int32).getD 0 0))).1 (by decide) (by decide) kk_) ?_
  refine Fin.by (fun tt_ kk_ => XS.iinc X106.here hx rfl (hb hby d_prog_114_method_7_77) rfl (l' := #[.val (.ref a), .val (.ref x), .val (.int 0), .val (.int 1), .val (.int u0), .val (.int u0)]) rfl (XS.goto X106.here hx rfl (pc0 := 80) (pc' := 15) rfl (hb hby d_prog_114_method_7_80) (by decide) (by decide) (XS.iloadN X106.here hx rfl (hb hby d_prog_114_method_7_15) rfl (XS.aloadN X106.here hx rfl (hb hby d_prog_114_method_7_16) rfl rfl kk_)))) ?_
  obtain ⟨T107, X107, e107, st107⟩ := getF X106 hx hZ hown (host := "") (Or.inl (w_ hw 42 rfl)) Via.refl e106 Fl (g := (mkF m 17 #[.val (.ref a), .val (.ref x), .val (.int 0), .val (.int 1), .val (.int u0), .val (.int u0)] [(.ref a), (.int 1)])) rfl rfl (hb hby d_prog_114_method_7_17)
  refine Fin.by (fun tt_ kk_ => st107 tt_ kk_) ?_
  show Fin _ _ _ _ _ _ _ (T107.setTop (mkF m 20 #[.val (.ref a), .val (.ref x), .val (.int 0), .val (.int 1), .val (.int u0), .val (.int u0)] [(.int 3), (.int 1)]))
  refine Fin.by (fun tt_ kk_ => XS.icmpNo X107.here hx rfl (hb hby d_prog_114_method_7_20) rfl (tlt (by decide : (1 : Int32) < (3 : Int32))).2.1 kk_) ?_
  refine Fin.by (fun tt_ kk_ => XS.aloadN X107.here hx rfl (hb hby d_prog_114_method_7_23) rfl rfl kk_) ?_
  obtain ⟨T108, X108, e108, st108⟩ := getF X107 hx hZ hown (host := "") (Or.inl (w_ hw 35 rfl)) Via.refl e107 Fc (g := (mkF m 24 #[.val (.ref a), .val (.ref x), .val (.int 0), .val (.int 1), .val (.int u0), .val (.int u0)] [(.ref a)])) rfl rfl (hb hby d_prog_114_method_7_24)
  refine Fin.by (fun tt_ kk_ => st108 tt_ kk_) ?_
  refine Fin.by (fun tt_ kk_ => XS.iloadN X108.here hx rfl (hb hby d_prog_114_method_7_27) rfl kk_) ?_
  obtain ⟨cl109, Ar109, q109, S109, N109, H109, G109⟩ := id Ak
  have hin109 : ¬ ((1 : Int32) < 0 ∨ cl109.slots.size ≤ (1 : Int32).toNatClampNeg) := within (show (1 : Int32) = Int32.ofNat 1 from rfl) (by rw [S109]; omega) (by rw [S109]; exact own_clamp _)
  refine Fin.by (fun tt_ kk_ => X108.caload hx (j := (1 : Int32)) (v := (.int u1)) (by rw [e108]; exact Ar109.1) (State.isArrayOf_alike hZ.alike Ar109.2.1) Ar109.2.2 hin109 (Has.at H109 hin109 (by rw [show (1 : Int32).toNatClampNeg = 1 from by decide]; exact hg1)) (g := (mkF m 28 #[.val (.ref a), .val (.ref x), .val (.int 0), .val (.int 1), .val (.int u0), .val (.int u0)] [(.int 1), (.ref b)])) rfl rfl (hb hby d_prog_114_method_7_28) _ kk_) ?_
  refine Fin.by (fun tt_ kk_ => XS.istore X108.here hx rfl (hb hby d_prog_114_method_7_29) rfl (l' := #[.val (.ref a), .val (.ref x), .val (.int 0), .val (.int 1), .val (.int u1), .val (.int u0)]) rfl (XS.iloadN X108.here hx rfl (hb hby d_prog_114_method_7_31) rfl kk_)) ?_
  show Fin _ _ _ _ _ _ _ (T108.setTop (mkF m 32 #[.val (.ref a), .val (.ref x), .val (.int 0), .val (.int 1), .val (.int u1), .val (.int u0)] [(.int 0)]))
  refine Fin.by (fun tt_ kk_ => XS.ifYes X108.here hx rfl (pc0 := 32) (pc' := 61) rfl (hb hby d_prog_114_method_7_32) rfl ((if0 _ _).trans (teq (rfl : (0 : Int32) = (0 : Int32))).1) (by decide) (by decide) kk_) ?_
  refine Fin.by (fun tt_ kk_ => XS.iload X108.here hx rfl (hb hby d_prog_114_method_7_61) rfl (XS.istore X108.here hx rfl (hb hby d_prog_114_method_7_63) rfl (l' := #[.val (.ref a), .val (.ref x), .val (.int 0), .val (.int 1), .val (.int u1), .val (.int u1)]) rfl (XS.iload X108.here hx rfl (hb hby d_prog_114_method_7_65) rfl (XS.aloadN X108.here hx rfl (hb hby d_prog_114_method_7_67) rfl rfl (XS.iloadN X108.here hx rfl (hb hby d_prog_114_method_7_68) rfl kk_))))) ?_
  obtain ⟨cq110, kq110, qa110, qb110, qc110⟩ := isOf hZ e108 E1
  obtain ⟨v110, _, ⟨T110, L110, k110, n110⟩, -, X110, ⟨Lc110, hQ110, l110, y110, z110⟩, st110⟩ := X108.virtualBack hx (y := y_21) (z := y_21) hown (mvT hZ (w_ hw 98 rfl)) (mvT hZ (w_ hw 99 rfl)) (notFace_of_selects (args := #[]) (mvT hZ (w_ hw 101 rfl))) (mvT hZ (w_ hw 101 rfl)) (mvT hZ (w_ hw 100 rfl)) (by decide) (backOf (W := 1) (rm_chA l Z a0 hw [] x t kb N2 (vs : List Value) ([u0, u1, u2] : List Int32) cd 1 (1 : Int32) G1 G9 h0 n0 Z0 hc hb3 l2 (Nat.le_of_ble_eq_true rfl) rfl E1 F0 F1 A0 S1 P1 S6 S7 S8 S9 r9 OL) hZ (w_ hw 102 rfl) (w_ hw 8 rfl) (by decide) (by decide)) qa110 qc110 (g := (mkF m 69 #[.val (.ref a), .val (.ref x), .val (.int 0), .val (.int 1), .val (.int u1), .val (.int u1)] [(.int 1), (.ref x), (.int u1)])) rfl (by rw [hml]; rfl) (Steps.refl _) (argsL := [(.int 1)]) (rest := [(.int u1)]) (lenOf pd_407 rfl) rfl (by show 2 * 0 + _ ≤ _; exact Nat.le_of_eq rfl) (hb hby d_prog_114_method_7_69) (fun _ _ => ⟨rfl, e108, (by decide : 0 + 0 ≤ _), (by decide : 0 + 0 ≤ _)⟩)
  dsimp only [Pt.U, Pt.locs, Pt.cells, Pt.slots] at X110 l110 y110 z110 st110 hQ110
  subst l110 y110 z110
  obtain ⟨rfl, Nq110, e110_⟩ := hQ110
  have N110_ := Fr.app N106_ Nq110
  refine Fin.byS st110 ?_
  have e110 := e110_
  show Fin _ _ _ _ _ _ _ (T110.setTop (mkF m 72 #[.val (.ref a), .val (.ref x), .val (.int 0), .val (.int 1), .val (.int u1), .val (.int u1)] [(.int (([u0, u1, u2] : List Int32).getD 1 0)), (.int u1)]))
  refine Fin.by (fun tt_ kk_ => XS.icmpYes X110.here hx rfl (pc0 := 72) (pc' := 77) rfl (hb hby d_prog_114_method_7_72) rfl (teq (rfl : u1 = (([u0, u1, u2] : List Int32).getD 1 0))).1 (by decide) (by decide) kk_) ?_
  refine Fin.by (fun tt_ kk_ => XS.iinc X110.here hx rfl (hb hby d_prog_114_method_7_77) rfl (l' := #[.val (.ref a), .val (.ref x), .val (.int 0), .val (.int 2), .val (.int u1), .val (.int u1)]) rfl (XS.goto X110.here hx rfl (pc0 := 80) (pc' := 15) rfl (hb hby d_prog_114_method_7_80) (by decide) (by decide) (XS.iloadN X110.here hx rfl (hb hby d_prog_114_method_7_15) rfl (XS.aloadN X110.here hx rfl (hb hby d_prog_114_method_7_16) rfl rfl kk_)))) ?_
  obtain ⟨T111, X111, e111, st111⟩ := getF X110 hx hZ hown (host := "") (Or.inl (w_ hw 42 rfl)) Via.refl e110 Fl (g := (mkF m 17 #[.val (.ref a), .val (.ref x), .val (.int 0), .val (.int 2), .val (.int u1), .val (.int u1)] [(.ref a), (.int 2)])) rfl rfl (hb hby d_prog_114_method_7_17)
  refine Fin.by (fun tt_ kk_ => st111 tt_ kk_) ?_
  show Fin _ _ _ _ _ _ _ (T111.setTop (mkF m 20 #[.val (.ref a), .val (.ref x), .val (.int 0), .val (.int 2), .val (.int u1), .val (.int u1)] [(.int 3), (.int 2)]))
  refine Fin.by (fun tt_ kk_ => XS.icmpNo X111.here hx rfl (hb hby d_prog_114_method_7_20) rfl (tlt (by decide : (2 : Int32) < (3 : Int32))).2.1 kk_) ?_
  refine Fin.by (fun tt_ kk_ => XS.aloadN X111.here hx rfl (hb hby d_prog_114_method_7_23) rfl rfl kk_) ?_
  obtain ⟨T112, X112, e112, st112⟩ := getF X111 hx hZ hown (host := "") (Or.inl (w_ hw 35 rfl)) Via.refl e111 Fc (g := (mkF m 24 #[.val (.ref a), .val (.ref x), .val (.int 0), .val (.int 2), .val (.int u1), .val (.int u1)] [(.ref a)])) rfl rfl (hb hby d_prog_114_method_7_24)
  refine Fin.by (fun tt_ kk_ => st112 tt_ kk_) ?_
  refine Fin.by (fun tt_ kk_ => XS.iloadN X112.here hx rfl (hb hby d_prog_114_method_7_27) rfl kk_) ?_
  obtain ⟨cl113, Ar113, q113, S113, N113, H113, G113⟩ := id Ak
  have hin113 : ¬ ((2 : Int32) < 0 ∨ cl113.slots.size ≤ (2 : Int32).toNatClampNeg) := within (show (2 : Int32) = Int32.ofNat 2 from rfl) (by rw [S113]; omega) (by rw [S113]; exact own_clamp _)
  refine Fin.by (fun tt_ kk_ => X112.caload hx (j := (2 : Int32)) (v := (.int u2)) (by rw [e112]; exact Ar113.1) (State.isArrayOf_alike hZ.alike Ar113.2.1) Ar113.2.2 hin113 (Has.at H113 hin113 (by rw [show (2 : Int32).toNatClampNeg = 2 from by decide]; exact hg2)) (g := (mkF m 28 #[.val (.ref a), .val (.ref x), .val (.int 0), .val (.int 2), .val (.int u1), .val (.int u1)] [(.int 2), (.ref b)])) rfl rfl (hb hby d_prog_114_method_7_28) _ kk_) ?_
  refine Fin.by (fun tt_ kk_ => XS.istore X112.here hx rfl (hb hby d_prog_114_method_7_29) rfl (l' := #[.val (.ref a), .val (.ref x), .val (.int 0), .val (.int 2), .val (.int u2), .val (.int u1)]) rfl (XS.iloadN X112.here hx rfl (hb hby d_prog_114_method_7_31) rfl kk_)) ?_
  show Fin _ _ _ _ _ _ _ (T112.setTop (mkF m 32 #[.val (.ref a), .val (.ref x), .val (.int 0), .val (.int 2), .val (.int u2), .val (.int u1)] [(.int 0)]))
  refine Fin.by (fun tt_ kk_ => XS.ifYes X112.here hx rfl (pc0 := 32) (pc' := 61) rfl (hb hby d_prog_114_method_7_32) rfl ((if0 _ _).trans (teq (rfl : (0 : Int32) = (0 : Int32))).1) (by decide) (by decide) kk_) ?_
  refine Fin.by (fun tt_ kk_ => XS.iload X112.here hx rfl (hb hby d_prog_114_method_7_61) rfl (XS.istore X112.here hx rfl (hb hby d_prog_114_method_7_63) rfl (l' := #[.val (.ref a), .val (.ref x), .val (.int 0), .val (.int 2), .val (.int u2), .val (.int u2)]) rfl (XS.iload X112.here hx rfl (hb hby d_prog_114_method_7_65) rfl (XS.aloadN X112.here hx rfl (hb hby d_prog_114_method_7_67) rfl rfl (XS.iloadN X112.here hx rfl (hb hby d_prog_114_method_7_68) rfl kk_))))) ?_
  obtain ⟨cq114, kq114, qa114, qb114, qc114⟩ := isOf hZ e112 E1
  obtain ⟨v114, _, ⟨T114, L114, k114, n114⟩, -, X114, ⟨Lc114, hQ114, l114, y114, z114⟩, st114⟩ := X112.virtualBack hx (y := y_21) (z := y_21) hown (mvT hZ (w_ hw 98 rfl)) (mvT hZ (w_ hw 99 rfl)) (notFace_of_selects (args := #[]) (mvT hZ (w_ hw 101 rfl))) (mvT hZ (w_ hw 101 rfl)) (mvT hZ (w_ hw 100 rfl)) (by decide) (backOf (W := 1) (rm_chA l Z a0 hw [] x t kb N2 (vs : List Value) ([u0, u1, u2] : List Int32) cd 2 (2 : Int32) G1 G9 h0 n0 Z0 hc hb3 l2 (Nat.le_of_ble_eq_true rfl) rfl E1 F0 F1 A0 S1 P1 S6 S7 S8 S9 r9 OL) hZ (w_ hw 102 rfl) (w_ hw 8 rfl) (by decide) (by decide)) qa114 qc114 (g := (mkF m 69 #[.val (.ref a), .val (.ref x), .val (.int 0), .val (.int 2), .val (.int u2), .val (.int u2)] [(.int 2), (.ref x), (.int u2)])) rfl (by rw [hml]; rfl) (Steps.refl _) (argsL := [(.int 2)]) (rest := [(.int u2)]) (lenOf pd_407 rfl) rfl (by show 2 * 0 + _ ≤ _; exact Nat.le_of_eq rfl) (hb hby d_prog_114_method_7_69) (fun _ _ => ⟨rfl, e112, (by decide : 0 + 0 ≤ _), (by decide : 0 + 0 ≤ _)⟩)
  dsimp only [Pt.U, Pt.locs, Pt.cells, Pt.slots] at X114 l114 y114 z114 st114 hQ114
  subst l114 y114 z114
  obtain ⟨rfl, Nq114, e114_⟩ := hQ114
  have N114_ := Fr.app N110_ Nq114
  refine Fin.byS st114 ?_
  have e114 := e114_
  show Fin _ _ _ _ _ _ _ (T114.setTop (mkF m 72 #[.val (.ref a), .val (.ref x), .val (.int 0), .val (.int 2), .val (.int u2), .val (.int u2)] [(.int (([u0, u1, u2] : List Int32).getD 2 0)), (.int u2)]))
  refine Fin.by (fun tt_ kk_ => XS.icmpYes X114.here hx rfl (pc0 := 72) (pc' := 77) rfl (hb hby d_prog_114_method_7_72) rfl (teq (rfl : u2 = (([u0, u1, u2] : List Int32).getD 2 0))).1 (by decide) (by decide) kk_) ?_
  refine Fin.by (fun tt_ kk_ => XS.iinc X114.here hx rfl (hb hby d_prog_114_method_7_77) rfl (l' := #[.val (.ref a), .val (.ref x), .val (.int 0), .val (.int 3), .val (.int u2), .val (.int u2)]) rfl (XS.goto X114.here hx rfl (pc0 := 80) (pc' := 15) rfl (hb hby d_prog_114_method_7_80) (by decide) (by decide) (XS.iloadN X114.here hx rfl (hb hby d_prog_114_method_7_15) rfl (XS.aloadN X114.here hx rfl (hb hby d_prog_114_method_7_16) rfl rfl kk_)))) ?_
  obtain ⟨T115, X115, e115, st115⟩ := getF X114 hx hZ hown (host := "") (Or.inl (w_ hw 42 rfl)) Via.refl e114 Fl (g := (mkF m 17 #[.val (.ref a), .val (.ref x), .val (.int 0), .val (.int 3), .val (.int u2), .val (.int u2)] [(.ref a), (.int 3)])) rfl rfl (hb hby d_prog_114_method_7_17)
  refine Fin.by (fun tt_ kk_ => st115 tt_ kk_) ?_
  show Fin _ _ _ _ _ _ _ (T115.setTop (mkF m 20 #[.val (.ref a), .val (.ref x), .val (.int 0), .val (.int 3), .val (.int u2), .val (.int u2)] [(.int 3), (.int 3)]))
  refine Fin.by (fun tt_ kk_ => XS.icmpYes X115.here hx rfl (pc0 := 20) (pc' := 83) rfl (hb hby d_prog_114_method_7_20) rfl (flt (by decide : ¬ (3 : Int32) < (3 : Int32))).2.1 (by decide) (by decide) kk_) ?_
  refine Fin.by (fun tt_ kk_ => XS.iconst X115.here hx rfl (hb hby d_prog_114_method_7_83) kk_) ?_
  show Fin _ _ _ _ _ _ _ (T115.setTop (mkF m 84 #[.val (.ref a), .val (.ref x), .val (.int 0), .val (.int 3), .val (.int u2), .val (.int u2)] [(.int 1)]))
  exact Fin.ret (v := some (.int (nar .boolean (1 : Int32)))) X115 (fun h => by rw [Bd.returns] at h; cases h) Bd.notSynchronized (by rw [e115]; exact ⟨rfl, N114_, rfl⟩) (by decide) (by decide) (fun fs hr => retN X115 hx (t := .boolean) Bd.returns (by simp) (hb hby d_prog_114_method_7_84) hr)
def Q_isx3 (Z : State) (a : Addr) (b : Addr) (kk : ClassId) (KN : Int32) (v2 : List Value) (u0 : Int32) (u1 : Int32) (u2 : Int32) (x : Addr) (t : Addr) (kb : ClassId) (N2 : Int32) (vs : List Value) (cd : Int32) (G1 : Int32) (G9 : Value) (h0 : Heap) (n0 : Nat) (vv_ : Option Value) (hh_ : Heap) (LL_ : List Loc) : Prop := vv_ = some (.int (nar .boolean (nar .boolean (1 : Int32)))) ∧ Fr n0 LL_ ∧ hh_ = h0
set_option maxRecDepth 65536 in
set_option maxHeartbeats 40000000 in
theorem rm_isx3 (l : Launch) (Z : State) (a0 : Array Value) (hw : ∀ d ∈ tables_1, d.before a0 Z = true) (ws : List Jvm.Cond) (a : Addr) (b : Addr) (kk : ClassId) (KN : Int32) (v2 : List Value) (u0 : Int32) (u1 : Int32) (u2 : Int32) (x : Addr) (t : Addr) (kb : ClassId) (N2 : Int32) (vs : List Value) (cd : Int32) (G1 : Int32) (G9 : Value) (h0 : Heap) (n0 : Nat) (Z0 : n0 ≤ h0.size) (hc : StrChars.Road.CodA ([u0, u1, u2] : List Int32) cd N2 vs) (hb3 : ∀ c ∈ ([u0, u1, u2] : List Int32), ¬ c < 0 ∧ ¬ (65535 : Int32) < c) (l2 : List.length ([u0, u1, u2] : List Int32) ≤ 4000) (hg0 : v2.getD 0 (.int 0) = .int u0) (hg1 : v2.getD 1 (.int 0) = .int u1) (hg2 : v2.getD 2 (.int 0) = .int u2) (hkn : 3 ≤ KN.toNatClampNeg) (E0 : Exa Z h0 a "com/example/colonnade/colonnade/WordBuffer") (Fc : Fld Z h0 a "com/example/colonnade/colonnade/WordBuffer" "chars" "[C" (.ref b)) (Fl : Fld Z h0 a "com/example/colonnade/colonnade/WordBuffer" "length" "I" (.int (3 : Int32))) (Ak : Arv Z h0 b kk .char KN v2 (.int (0 : Int32))) (E1 : Exa Z h0 x "java/lang/String") (F0 : Fld Z h0 x "java/lang/String" "value" "[B" (.ref t)) (F1 : Fld Z h0 x "java/lang/String" "coder" "B" (.int cd)) (A0 : Arv Z h0 t kb .byte N2 vs (.int 0)) (S1 : Sta Z Z.heap "java/lang/String" "COMPACT_STRINGS" "Z" (.int G1)) (P1 : ¬ G1 = 0) (S6 : Sta Z Z.heap "java/lang/StringUTF16" "$assertionsDisabled" "Z" (.int (1 : Int32))) (S7 : Sta Z Z.heap "java/lang/StringUTF16" "HI_BYTE_SHIFT" "I" (.int (0 : Int32))) (S8 : Sta Z Z.heap "java/lang/StringUTF16" "LO_BYTE_SHIFT" "I" (.int (8 : Int32))) (S9 : Sta Z Z.heap "jdk/internal/util/Preconditions" "SIOOBE_FORMATTER" "Ljava/util/function/BiFunction;" G9) (r9 : G9.isRef = true) (OL : Old Z n0 h0) :
    MetFree l (⟨"com/example/colonnade/colonnade/WordBuffer", "isExactly", "(Ljava/lang/String;)Z"⟩ : MethodName) (head1 (Jvm.Cond.code (⟨"com/example/colonnade/colonnade/WordBuffer", "isExactly", "(Ljava/lang/String;)Z"⟩ : MethodName) prog_114_method_6_code 2 (some .boolean) :: ws) ({ frames := 6, cells := 0, slots := 0, locals := 84 } : Room)) (fun aa_ U => aa_ = #[(.ref a), (.ref x)] ∧ Z.Warmed39 U.vm ∧ U.heap = h0) (fun _ _ _ _ _ => True) (fun _ U o U' => ∃ vv_ LL_, o = .returned vv_ ∧ Q_isx3 Z a b kk KN v2 u0 u1 u2 x t kb N2 vs cd G1 G9 h0 n0 vv_ U'.heap LL_ ∧ FrameEnd U o U' LL_ 0 0) := by
  refine MetFree.of_bodySF (plainFor_of_name pn_com_example_colonnade_colonnade_WordBuffer) hisR ?_
  intro p e s m args below meth c s₁ Bd hml0 hP hK
  obtain ⟨rfl, hZ, hh⟩ := hP
  have hx := Bd.exec
  have hby := Bd.bytes
  have hml : c.maxLocals = 2 := hml0
  have hown : s.vm.findClass "com/example/colonnade/colonnade/WordBuffer" = some m.cls := findClass_of_methodNamed Bd.named
  have hnm := (name_of_methodNamed Bd.named Bd.method).1
  have X0 : Stand p l e ({ frames := 6, cells := 0, slots := 0, locals := 84 } : Room) s m #[(.ref a), (.ref x)] below meth c s₁ [] 0 0 := Stand.of_body Bd
  have e0 : s₁.heap = h0 := by rw [← hh, Bd.state]; rfl
  have N0 := Fr.nil n0
  have ef : entryFrame m #[(.ref a), (.ref x)] 2 = mkF m 0 #[.val (.ref a), .val (.ref x)] [] := by first | (simp [entryFrame, mkF, argsToLocals, Value.category]; done) | rfl
  refine Fin.start (Q := Q_isx3 Z a b kk KN v2 u0 u1 u2 x t kb N2 vs cd G1 G9 h0 n0) ef ?_
  refine Fin.by (fun tt_ kk_ => XS.aloadN X0.here hx rfl (hb hby d_prog_114_method_6_0) rfl rfl (XS.aloadN X0.here hx rfl (hb hby d_prog_114_method_6_1) rfl rfl (XS.iconst X0.here hx rfl (hb hby d_prog_114_method_6_2) kk_))) ?_
  obtain ⟨cq101, qa101, qb101⟩ := E0.cell
  obtain ⟨v101, _, ⟨T101, L101, k101, n101⟩, -, X101, ⟨Lc101, hQ101, l101, y101, z101⟩, st101⟩ := X0.privateBack hx (y := y_19) hown (mvT hZ (w_ hw 54 rfl)) (mvT hZ (w_ hw 55 rfl)) (own_selpriv (z := y_20) (y := y_19) (mvT hZ (w_ hw 40 rfl)) rfl (Cond.privateMethod_at (mvP hZ (w_ hw 56 rfl) (args := #[]))) (mvT hZ (w_ hw 55 rfl)) (by decide)) (Cond.privateMethod_at (mvP hZ (w_ hw 56 rfl) (args := #[]))) (mvT hZ (w_ hw 57 rfl)) (by decide) (backOf (W := 0) (rm_mat3 l Z a0 hw [] a b kk KN (v2 : List Value) u0 u1 u2 x t kb N2 (vs : List Value) cd G1 G9 h0 n0 Z0 hc hb3 l2 hg0 hg1 hg2 hkn E0 Fc Fl Ak E1 F0 F1 A0 S1 P1 S6 S7 S8 S9 r9 OL) hZ (w_ hw 57 rfl) (w_ hw 30 rfl) (by decide) (by decide)) (g := (mkF m 3 #[.val (.ref a), .val (.ref x)] [(.int 0), (.ref x), (.ref a)])) rfl (by rw [hml]; rfl) (Steps.refl _) (a := a) (by rw [e0]; exact qa101) qb101 (argsL := [(.ref x), (.int 0)]) (rest := []) (lenOf pd_384 rfl) rfl (by show 2 * 0 + _ ≤ _; exact Nat.le_of_eq rfl) (hb hby d_prog_114_method_6_3) (fun _ _ => ⟨rfl, e0, (by decide : 0 + 0 ≤ _), (by decide : 0 + 0 ≤ _)⟩)
  dsimp only [Pt.U, Pt.locs, Pt.cells, Pt.slots] at X101 l101 y101 z101 st101 hQ101
  subst l101 y101 z101
  obtain ⟨rfl, Nq101, e101_⟩ := hQ101
  have N101_ := Fr.app N0 Nq101
  refine Fin.byS st101 ?_
  have e101 := e101_
  show Fin _ _ _ _ _ _ _ (T101.setTop (mkF m 6 #[.val (.ref a), .val (.ref x)] [(.int (nar .boolean 1))]))
  exact Fin.ret (v := some (.int (nar .boolean (nar .boolean (1 : Int32))))) X101 (fun h => by rw [Bd.returns] at h; cases h) Bd.notSynchronized (by rw [e101]; exact ⟨rfl, N101_, rfl⟩) (by decide) (by decide) (fun fs hr => retN X101 hx (t := .boolean) Bd.returns (by simp) (hb hby d_prog_114_method_6_6) hr)
abbrev y_22 : MethodName := (⟨"com/example/colonnade/colonnade/WordBufferAddPinLaw", "prefix", "(ICCC)Ljava/lang/String;"⟩ : MethodName)
abbrev y_23 : MethodName := (⟨"com/example/colonnade/colonnade/WordBuffer", "isExactly", "(Ljava/lang/String;)Z"⟩ : MethodName)
abbrev y_24 : MethodName := (⟨"com/example/colonnade/colonnade/WordBuffer", "<init>", "(I)V"⟩ : MethodName)
abbrev y_25 : MethodName := (⟨"com/example/colonnade/colonnade/WordBuffer", "add", "(C)V"⟩ : MethodName)
theorem pd_412 : parseMethodDescriptor "(ICCC)Ljava/lang/String;" = some ⟨[.int, .char, .char, .char], some (.object "java/lang/String")⟩ := by decide +kernel
theorem pd_413 : parseMethodDescriptor "(Ljava/lang/String;)Z" = some ⟨[(.object "java/lang/String")], some .boolean⟩ := by decide +kernel
theorem pd_414 : parseMethodDescriptor "(I)V" = some ⟨[.int], none⟩ := by decide +kernel
theorem pd_415 : parseMethodDescriptor "(C)V" = some ⟨[.char], none⟩ := by decide +kernel
def Q_law (Z : State) (p1 : Int32) (p2 : Int32) (p3 : Int32) (p4 : Int32) (p5 : Int32) (G1 : Int32) (G9 : Value) (h0 : Heap) (n0 : Nat) (vv_ : Option Value) (hh_ : Heap) (LL_ : List Loc) : Prop := vv_ = some (.int (1 : Int32)) ∧ Fr n0 LL_
set_option maxRecDepth 65536 in
set_option maxHeartbeats 40000000 in
theorem rm_law (l : Launch) (Z : State) (a0 : Array Value) (hw : ∀ d ∈ tables_1, d.before a0 Z = true) (ws : List Jvm.Cond) (p1 : Int32) (p2 : Int32) (p3 : Int32) (p4 : Int32) (p5 : Int32) (G1 : Int32) (G9 : Value) (h0 : Heap) (n0 : Nat) (Z0 : n0 ≤ h0.size) (S1 : Sta Z Z.heap "java/lang/String" "COMPACT_STRINGS" "Z" (.int G1)) (P1 : ¬ G1 = 0) (S6 : Sta Z Z.heap "java/lang/StringUTF16" "$assertionsDisabled" "Z" (.int (1 : Int32))) (S7 : Sta Z Z.heap "java/lang/StringUTF16" "HI_BYTE_SHIFT" "I" (.int (0 : Int32))) (S8 : Sta Z Z.heap "java/lang/StringUTF16" "LO_BYTE_SHIFT" "I" (.int (8 : Int32))) (S9 : Sta Z Z.heap "jdk/internal/util/Preconditions" "SIOOBE_FORMATTER" "Ljava/util/function/BiFunction;" G9) (r9 : G9.isRef = true) (OL : Old Z n0 h0) :
    MetFree l x (head1 (Jvm.Cond.code x code maxLocals ret :: ws) room_1) (fun aa_ U => aa_ = #[(.int p1), (.int p2), (.int p3), (.int p4), (.int p5)] ∧ Z.Warmed39 U.vm ∧ U.heap = h0 ∧ CHv Z consts_1 U.vm h0) (fun _ _ _ _ _ => True) (fun _ U o U' => ∃ vv_ LL_, o = .returned vv_ ∧ Q_law Z p1 p2 p3 p4 p5 G1 G9 h0 n0 vv_ U'.heap LL_ ∧ CHr Z consts_1 U.vm U.heap U'.vm U'.heap ∧ ReturnedEndW U o U' LL_ 24 1152) := by
  refine MetFree.of_bodySF (plainFor_of_name pn_com_example_colonnade_colonnade_WordBufferAddPinLaw) hisR ?_
  intro p e s m args below meth c s₁ Bd hml0 hP hK
  obtain ⟨rfl, hZ, hh, hC0⟩ := hP
  have hx := Bd.exec
  have hby := Bd.bytes
  have hml : c.maxLocals = 17 := hml0
  have hown : s.vm.findClass "com/example/colonnade/colonnade/WordBufferAddPinLaw" = some m.cls := findClass_of_methodNamed Bd.named
  have hnm := (name_of_methodNamed Bd.named Bd.method).1
  have X0 : Stand p l e room_1 (s.setVm s.vm) m #[(.int p1), (.int p2), (.int p3), (.int p4), (.int p5)] below meth c s₁ [] 0 0 := Stand.of_body Bd
  have e0 : s₁.heap = h0 := by rw [← hh, Bd.state]; rfl
  have N0 := Fr.nil n0
  have ef : entryFrame m #[(.int p1), (.int p2), (.int p3), (.int p4), (.int p5)] maxLocals = mkF m 0 #[.val (.int p1), .val (.int p2), .val (.int p3), .val (.int p4), .val (.int p5), .unset, .unset, .unset, .unset, .unset, .unset, .unset, .unset, .unset, .unset, .unset, .unset] [] := by first | (simp [entryFrame, mkF, argsToLocals, Value.category, maxLocals]; done) | rfl
  have hS0 : s.Since s.vm h0.size := (State.WarmedH.refl s).since _
  have hk0 : h0.size ≤ h0.size := Nat.le_refl _
  have own_EW := own_EW0 hw
  have ch0 : CHr Z consts_1 s.vm h0 s.vm h0 := CHr.refl hC0
  refine FinH.start (Q := Q_law Z p1 p2 p3 p4 p5 G1 G9 h0 n0) ef ?_
  refine FinH.by (fun tt_ kk_ => XS.iloadN X0.here hx rfl (hb hby at_0) rfl (XS.iconst X0.here hx rfl (hb hby at_1) (XS.iand X0.here hx rfl (hb hby at_2) rfl (XS.istore X0.here hx rfl (hb hby at_3) rfl (l' := #[.val (.int p1), .val (.int p2), .val (.int p3), .val (.int p4), .val (.int p5), .val (.int (p1 &&& 3)), .unset, .unset, .unset, .unset, .unset, .unset, .unset, .unset, .unset, .unset, .unset]) rfl (XS.iloadN X0.here hx rfl (hb hby at_5) rfl kk_))))) ?_
  refine FinH.by (fun tt_ kk_ => X0.ldcInt hx hown (mvT hZ (w_ hw 0 rfl)) (g := (mkF m 6 #[.val (.int p1), .val (.int p2), .val (.int p3), .val (.int p4), .val (.int p5), .val (.int (p1 &&& 3)), .unset, .unset, .unset, .unset, .unset, .unset, .unset, .unset, .unset, .unset, .unset] [(.int p2)])) rfl (hb hby at_6) _ kk_) ?_
  refine FinH.by (fun tt_ kk_ => XS.iand X0.here hx rfl (hb hby at_8) rfl (XS.iconst X0.here hx rfl (hb hby at_9) (iremM X0 hx rfl (hb hby at_10) rfl (by decide) (XS.istore X0.here hx rfl (hb hby at_11) rfl (l' := #[.val (.int p1), .val (.int p2), .val (.int p3), .val (.int p4), .val (.int p5), .val (.int (p1 &&& 3)), .val (.int ((p2 &&& 2147483647) % 5)), .unset, .unset, .unset, .unset, .unset, .unset, .unset, .unset, .unset, .unset]) rfl (XS.iload X0.here hx rfl (hb hby at_13) rfl kk_))))) ?_
  refine FinH.by (fun tt_ kk_ => X0.ldcInt hx hown (mvT hZ (w_ hw 0 rfl)) (g := (mkF m 15 #[.val (.int p1), .val (.int p2), .val (.int p3), .val (.int p4), .val (.int p5), .val (.int (p1 &&& 3)), .val (.int ((p2 &&& 2147483647) % 5)), .unset, .unset, .unset, .unset, .unset, .unset, .unset, .unset, .unset, .unset] [(.int p5)])) rfl (hb hby at_15) _ kk_) ?_
  refine FinH.by (fun tt_ kk_ => XS.iand X0.here hx rfl (hb hby at_17) rfl (XS.iload X0.here hx rfl (hb hby at_18) rfl (XS.iconst X0.here hx rfl (hb hby at_20) (XS.iadd X0.here hx rfl (hb hby at_21) rfl (iremM X0 hx rfl (hb hby at_22) rfl (own_k1 p1) (XS.istore X0.here hx rfl (hb hby at_23) rfl (l' := #[.val (.int p1), .val (.int p2), .val (.int p3), .val (.int p4), .val (.int p5), .val (.int (p1 &&& 3)), .val (.int ((p2 &&& 2147483647) % 5)), .val (.int ((p5 &&& 2147483647) % ((p1 &&& 3) + 1))), .unset, .unset, .unset, .unset, .unset, .unset, .unset, .unset, .unset]) rfl (XS.iloadN X0.here hx rfl (hb hby at_25) rfl kk_))))))) ?_
  refine FinH.by (fun tt_ kk_ => X0.ldcInt hx hown (mvT hZ (w_ hw 1 rfl)) (g := (mkF m 26 #[.val (.int p1), .val (.int p2), .val (.int p3), .val (.int p4), .val (.int p5), .val (.int (p1 &&& 3)), .val (.int ((p2 &&& 2147483647) % 5)), .val (.int ((p5 &&& 2147483647) % ((p1 &&& 3) + 1))), .unset, .unset, .unset, .unset, .unset, .unset, .unset, .unset, .unset] [(.int p3)])) rfl (hb hby at_26) _ kk_) ?_
  refine FinH.by (fun tt_ kk_ => XS.iand X0.here hx rfl (hb hby at_28) rfl (XS.i2c X0.here hx rfl (hb hby at_29) rfl (XS.istore X0.here hx rfl (hb hby at_30) rfl (l' := #[.val (.int p1), .val (.int p2), .val (.int p3), .val (.int p4), .val (.int p5), .val (.int (p1 &&& 3)), .val (.int ((p2 &&& 2147483647) % 5)), .val (.int ((p5 &&& 2147483647) % ((p1 &&& 3) + 1))), .val (.int ((p3 &&& 65535).toUInt32.toUInt16.toUInt32.toInt32)), .unset, .unset, .unset, .unset, .unset, .unset, .unset, .unset]) rfl (XS.iloadN X0.here hx rfl (hb hby at_32) rfl (XS.bipush X0.here hx rfl (hb hby at_33) (XS.iushr X0.here hx rfl (hb hby at_35) rfl kk_)))))) ?_
  refine FinH.by (fun tt_ kk_ => X0.ldcInt hx hown (mvT hZ (w_ hw 1 rfl)) (g := (mkF m 36 #[.val (.int p1), .val (.int p2), .val (.int p3), .val (.int p4), .val (.int p5), .val (.int (p1 &&& 3)), .val (.int ((p2 &&& 2147483647) % 5)), .val (.int ((p5 &&& 2147483647) % ((p1 &&& 3) + 1))), .val (.int ((p3 &&& 65535).toUInt32.toUInt16.toUInt32.toInt32)), .unset, .unset, .unset, .unset, .unset, .unset, .unset, .unset] [(.int ((p3.toUInt32 >>> ((16 : Int32) &&& 31).toUInt32).toInt32))])) rfl (hb hby at_36) _ kk_) ?_
  refine FinH.by (fun tt_ kk_ => XS.iand X0.here hx rfl (hb hby at_38) rfl (XS.i2c X0.here hx rfl (hb hby at_39) rfl (XS.istore X0.here hx rfl (hb hby at_40) rfl (l' := #[.val (.int p1), .val (.int p2), .val (.int p3), .val (.int p4), .val (.int p5), .val (.int (p1 &&& 3)), .val (.int ((p2 &&& 2147483647) % 5)), .val (.int ((p5 &&& 2147483647) % ((p1 &&& 3) + 1))), .val (.int ((p3 &&& 65535).toUInt32.toUInt16.toUInt32.toInt32)), .val (.int ((((p3.toUInt32 >>> ((16 : Int32) &&& 31).toUInt32).toInt32) &&& 65535).toUInt32.toUInt16.toUInt32.toInt32)), .unset, .unset, .unset, .unset, .unset, .unset, .unset]) rfl (XS.iloadN X0.here hx rfl (hb hby at_42) rfl kk_)))) ?_
  refine FinH.by (fun tt_ kk_ => X0.ldcInt hx hown (mvT hZ (w_ hw 1 rfl)) (g := (mkF m 43 #[.val (.int p1), .val (.int p2), .val (.int p3), .val (.int p4), .val (.int p5), .val (.int (p1 &&& 3)), .val (.int ((p2 &&& 2147483647) % 5)), .val (.int ((p5 &&& 2147483647) % ((p1 &&& 3) + 1))), .val (.int ((p3 &&& 65535).toUInt32.toUInt16.toUInt32.toInt32)), .val (.int ((((p3.toUInt32 >>> ((16 : Int32) &&& 31).toUInt32).toInt32) &&& 65535).toUInt32.toUInt16.toUInt32.toInt32)), .unset, .unset, .unset, .unset, .unset, .unset, .unset] [(.int p4)])) rfl (hb hby at_43) _ kk_) ?_
  refine FinH.by (fun tt_ kk_ => XS.iand X0.here hx rfl (hb hby at_45) rfl (XS.i2c X0.here hx rfl (hb hby at_46) rfl (XS.istore X0.here hx rfl (hb hby at_47) rfl (l' := #[.val (.int p1), .val (.int p2), .val (.int p3), .val (.int p4), .val (.int p5), .val (.int (p1 &&& 3)), .val (.int ((p2 &&& 2147483647) % 5)), .val (.int ((p5 &&& 2147483647) % ((p1 &&& 3) + 1))), .val (.int ((p3 &&& 65535).toUInt32.toUInt16.toUInt32.toInt32)), .val (.int ((((p3.toUInt32 >>> ((16 : Int32) &&& 31).toUInt32).toInt32) &&& 65535).toUInt32.toUInt16.toUInt32.toInt32)), .val (.int ((p4 &&& 65535).toUInt32.toUInt16.toUInt32.toInt32)), .unset, .unset, .unset, .unset, .unset, .unset]) rfl (XS.iloadN X0.here hx rfl (hb hby at_49) rfl (XS.bipush X0.here hx rfl (hb hby at_50) (XS.iushr X0.here hx rfl (hb hby at_52) rfl kk_)))))) ?_
  refine FinH.by (fun tt_ kk_ => X0.ldcInt hx hown (mvT hZ (w_ hw 1 rfl)) (g := (mkF m 53 #[.val (.int p1), .val (.int p2), .val (.int p3), .val (.int p4), .val (.int p5), .val (.int (p1 &&& 3)), .val (.int ((p2 &&& 2147483647) % 5)), .val (.int ((p5 &&& 2147483647) % ((p1 &&& 3) + 1))), .val (.int ((p3 &&& 65535).toUInt32.toUInt16.toUInt32.toInt32)), .val (.int ((((p3.toUInt32 >>> ((16 : Int32) &&& 31).toUInt32).toInt32) &&& 65535).toUInt32.toUInt16.toUInt32.toInt32)), .val (.int ((p4 &&& 65535).toUInt32.toUInt16.toUInt32.toInt32)), .unset, .unset, .unset, .unset, .unset, .unset] [(.int ((p4.toUInt32 >>> ((16 : Int32) &&& 31).toUInt32).toInt32))])) rfl (hb hby at_53) _ kk_) ?_
  refine FinH.by (fun tt_ kk_ => XS.iand X0.here hx rfl (hb hby at_55) rfl (XS.i2c X0.here hx rfl (hb hby at_56) rfl (XS.istore X0.here hx rfl (hb hby at_57) rfl (l' := #[.val (.int p1), .val (.int p2), .val (.int p3), .val (.int p4), .val (.int p5), .val (.int (p1 &&& 3)), .val (.int ((p2 &&& 2147483647) % 5)), .val (.int ((p5 &&& 2147483647) % ((p1 &&& 3) + 1))), .val (.int ((p3 &&& 65535).toUInt32.toUInt16.toUInt32.toInt32)), .val (.int ((((p3.toUInt32 >>> ((16 : Int32) &&& 31).toUInt32).toInt32) &&& 65535).toUInt32.toUInt16.toUInt32.toInt32)), .val (.int ((p4 &&& 65535).toUInt32.toUInt16.toUInt32.toInt32)), .val (.int ((((p4.toUInt32 >>> ((16 : Int32) &&& 31).toUInt32).toInt32) &&& 65535).toUInt32.toUInt16.toUInt32.toInt32)), .unset, .unset, .unset, .unset, .unset]) rfl kk_))) ?_
  have J59 : ∀ (k : Int32) (n : Int32) (mm : Int32) (q0 : Int32) (q1 : Int32) (q2 : Int32) (q3 : Int32), (k = 0 ∨ k = 1 ∨ k = 2 ∨ k = 3) → (n = 0 ∨ n = 1 ∨ n = 2 ∨ n = 3 ∨ n = 4) → ((mm = 0 ∨ mm = 1 ∨ mm = 2 ∨ mm = 3) ∧ ¬ k < mm) → FinH p e below Z consts_1 s (Q_law Z p1 p2 p3 p4 p5 G1 G9 h0 n0) 24 1152 (s₁.setTop (mkF m 59 #[.val (.int p1), .val (.int p2), .val (.int p3), .val (.int p4), .val (.int p5), .val (.int k), .val (.int n), .val (.int mm), .val (.int q0), .val (.int q1), .val (.int q2), .val (.int q3), .unset, .unset, .unset, .unset, .unset] [])) := by
    intro k n mm q0 q1 q2 q3 hk hn hm
    refine FinH.by (fun tt_ kk_ => XS.iload X0.here hx rfl (hb hby at_59) rfl (XS.iload X0.here hx rfl (hb hby at_61) rfl (XS.iload X0.here hx rfl (hb hby at_63) rfl (XS.iload X0.here hx rfl (hb hby at_65) rfl kk_)))) ?_
    obtain ⟨v101, _, ⟨T101, L101, k101, n101⟩, -, X101, hS101, hg101, ⟨Lc101, hQ101, l101, y101, z101, hC101⟩, st101⟩ := callSS X0 hx (y := y_22) hown (mvT hZ (w_ hw 2 rfl)) (mvT hZ (w_ hw 3 rfl)) (mvT hZ (w_ hw 4 rfl)) (mvT hZ (w_ hw 5 rfl)) (by decide) (backOfSH (W := 0) (rm_pre l Z a0 hw [] mm q0 q1 q2 G1 h0 n0 Z0 S1 P1 S6 S7 S8 OL) hZ (w_ hw 5 rfl) (w_ hw 4 rfl) (by decide) (by decide) own_EW ch0.1) (g := (mkF m 67 #[.val (.int p1), .val (.int p2), .val (.int p3), .val (.int p4), .val (.int p5), .val (.int k), .val (.int n), .val (.int mm), .val (.int q0), .val (.int q1), .val (.int q2), .val (.int q3), .unset, .unset, .unset, .unset, .unset] [(.int q2), (.int q1), (.int q0), (.int mm)])) rfl (by rw [hml]; rfl) (argsL := [(.int mm), (.int q0), (.int q1), (.int q2)]) (rest := []) (lenOf pd_412 rfl) rfl (by show 2 * 0 + _ ≤ _; exact Nat.le_of_eq rfl) (hb hby at_67) (fun _ _ => ⟨rfl, e0, (by decide : 0 + 6 ≤ _), (by decide : 0 + 16 ≤ _)⟩)
    dsimp only [Pt.U, Pt.locs, Pt.cells, Pt.slots] at X101 l101 y101 z101 st101 hQ101 hS101 hg101 hC101
    subst l101 y101 z101
    obtain ⟨x102, t103, kb104, N105, vs106, cd107, rfl, Nq101, p101_0, p101_1, p101_2, p101_3, p101_4, p101_5⟩ := hQ101
    have N101_ := Fr.app N0 Nq101
    refine FinH.byS st101 ?_
    obtain ⟨X101w, hS101w, hZ101, hown101⟩ := rebS hS0 (by rw [e0]; exact hk0) X101 hS101 hg101 hZ hown
    have ch108 : CHr Z consts_1 s.vm h0 T101.vm T101.heap := ch0.trans hC101
    refine FinH.by (fun tt_ kk_ => XS.astore X101w.here hx rfl (hb hby at_70) rfl rfl (l' := #[.val (.int p1), .val (.int p2), .val (.int p3), .val (.int p4), .val (.int p5), .val (.int k), .val (.int n), .val (.int mm), .val (.int q0), .val (.int q1), .val (.int q2), .val (.int q3), .val (.ref x102), .unset, .unset, .unset, .unset]) rfl kk_) ?_
    have J141 : ∀ (T109 : State) (h110 : Heap) (lc111 : List Loc) (V116 : Vm) (k117 : Nat) (wa : Addr) (wb : Addr) (wk : ClassId) (kj : Int32) (nj : Int32) (Lv : Int32) (v2 : List Value), Stand p l e room_1 (s.setVm V116) m #[(.int p1), (.int p2), (.int p3), (.int p4), (.int p5)] below meth c T109 lc111 8 21 → T109.heap = h110 → Fr n0 lc111 → Keep T101.heap h110 [] → s.Since V116 k117 → k117 ≤ h110.size → Z.Warmed39 (s.setVm V116).vm → (s.setVm V116).vm.findClass "com/example/colonnade/colonnade/WordBufferAddPinLaw" = some m.cls → CHr Z consts_1 T101.vm T101.heap V116 h110 → (Exa Z h110 wa "com/example/colonnade/colonnade/WordBuffer") → (Fld Z h110 wa "com/example/colonnade/colonnade/WordBuffer" "length" "I" (.int Lv)) → (Fld Z h110 wa "com/example/colonnade/colonnade/WordBuffer" "chars" "[C" (.ref wb)) → (Arv Z h110 wb wk .char kj v2 (.int (0 : Int32))) → ((nj = 0 ∧ Lv = 0) ∨ (¬ nj = 0 ∧ ¬ Lv = 0)) → ((nj = mm ∧ Lv = mm ∧ v2.take (own_pre mm (nar .char q0) (nar .char q1) (nar .char q2)).length = (own_pre mm (nar .char q0) (nar .char q1) (nar .char q2)).map Value.int ∧ (own_pre mm (nar .char q0) (nar .char q1) (nar .char q2)).length ≤ kj.toNatClampNeg) ∨ (¬ nj = mm ∧ ¬ Lv = mm)) → FinH p e below Z consts_1 s (Q_law Z p1 p2 p3 p4 p5 G1 G9 h0 n0) 24 1152 (T109.setTop (mkF m 141 #[.val (.int p1), .val (.int p2), .val (.int p3), .val (.int p4), .val (.int p5), .val (.int kj), .val (.int nj), .val (.int mm), .val (.int q0), .val (.int q1), .val (.int q2), .val (.int q3), .val (.ref x102), .val (.ref wa), .val (.int (nar .boolean (own_z (0 : Int32)))), .unset, .unset] [])) := by
      intro T109 h110 lc111 V116 k117 wa wb wk kj nj Lv v2 X112 e113 N114 K115 hS118 hk119 hZ120 hown121 hC122 jE jL jC jA hz hE
      have ch123 : CHr Z consts_1 s.vm h0 V116 h110 := ch108.trans hC122
      refine FinH.by (fun tt_ kk_ => XS.aload X112.here hx rfl (hb hby at_141) rfl rfl kk_) ?_
      have z124 : n0 ≤ h110.size := Nat.le_trans Z0 (Nat.le_trans p101_0.1 K115.1)
      obtain ⟨cq125, kq125, qa125, qb125, qc125⟩ := isOf hZ120 e113 jE
      obtain ⟨v125, _, ⟨T125, L125, k125, n125⟩, -, X125, ⟨Lc125, hQ125, l125, y125, z125⟩, st125⟩ := X112.virtualBack hx (y := y_20) (z := y_20) hown121 (mvT hZ120 (w_ hw 37 rfl)) (mvT hZ120 (w_ hw 38 rfl)) (notFace_of_selects (args := #[]) (mvT hZ120 (w_ hw 40 rfl))) (mvT hZ120 (w_ hw 40 rfl)) (mvT hZ120 (w_ hw 39 rfl)) (by decide) (backOf (W := 0) (rm_emp l Z a0 hw [] wa Lv h110 n0 z124 jL) hZ120 (w_ hw 41 rfl) (w_ hw 30 rfl) (by decide) (by decide)) qa125 qc125 (g := (mkF m 143 #[.val (.int p1), .val (.int p2), .val (.int p3), .val (.int p4), .val (.int p5), .val (.int kj), .val (.int nj), .val (.int mm), .val (.int q0), .val (.int q1), .val (.int q2), .val (.int q3), .val (.ref x102), .val (.ref wa), .val (.int (nar .boolean (own_z 0))), .unset, .unset] [(.ref wa)])) rfl (by rw [hml]; rfl) (Steps.refl _) (argsL := []) (rest := []) (lenOf pd_84 rfl) rfl (by show 2 * 0 + _ ≤ _; exact Nat.le_of_eq rfl) (hb hby at_143) (fun _ _ => ⟨rfl, e113, (by decide : 8 + 0 ≤ _), (by decide : 21 + 0 ≤ _)⟩)
      dsimp only [Pt.U, Pt.locs, Pt.cells, Pt.slots] at X125 l125 y125 z125 st125 hQ125
      subst l125 y125 z125
      obtain ⟨rfl, Nq125, e125_⟩ := hQ125
      have N125_ := Fr.app N114 Nq125
      refine FinH.byS st125 ?_
      have e125 := e125_
      refine FinH.by (fun tt_ kk_ => XS.istore X125.here hx rfl (hb hby at_146) rfl (l' := #[.val (.int p1), .val (.int p2), .val (.int p3), .val (.int p4), .val (.int p5), .val (.int kj), .val (.int nj), .val (.int mm), .val (.int q0), .val (.int q1), .val (.int q2), .val (.int q3), .val (.ref x102), .val (.ref wa), .val (.int (nar .boolean (own_z 0))), .val (.int (nar .boolean (own_z Lv))), .unset]) rfl (XS.aload X125.here hx rfl (hb hby at_148) rfl rfl (XS.aload X125.here hx rfl (hb hby at_150) rfl rfl kk_))) ?_
      rcases hE with ⟨hnm, hLm, hT, hK2⟩ | ⟨hnm, hLm⟩
      · rcases hm.1 with rfl | rfl | rfl | rfl
        · subst hnm
          subst hLm
          rw [own_pre0] at hT hK2
          have E126 : Exa Z h110 x102 "java/lang/String" := (p101_1.keep K115)
          have F127 : Fld Z h110 x102 "java/lang/String" "value" "[B" (.ref t103) := (p101_2.keep K115 nin0)
          have F128 : Fld Z h110 x102 "java/lang/String" "coder" "B" (.int cd107) := (p101_3.keep K115 nin0)
          have A129 : Arv Z h110 t103 kb104 .byte N105 vs106 (.int 0) := (p101_4.keep K115 nin0)
          have O130 : Old Z n0 h110 := ((OL.keep p101_0 all0).keep K115 all0)
          obtain ⟨cq131, kq131, qa131, qb131, qc131⟩ := isOf hZ120 e125 jE
          obtain ⟨v131, _, ⟨T131, L131, k131, n131⟩, -, X131, ⟨Lc131, hQ131, l131, y131, z131⟩, st131⟩ := X125.virtualBack hx (y := y_23) (z := y_23) hown121 (mvT hZ120 (w_ hw 49 rfl)) (mvT hZ120 (w_ hw 50 rfl)) (notFace_of_selects (args := #[]) (mvT hZ120 (w_ hw 52 rfl))) (mvT hZ120 (w_ hw 52 rfl)) (mvT hZ120 (w_ hw 51 rfl)) (by decide) (backOf (W := 0) (rm_isx0 l Z a0 hw [] wa wb wk kj (v2 : List Value) x102 t103 kb104 N105 (vs106 : List Value) cd107 G1 G9 h110 n0 z124 (by have q := p101_5; rw [own_pre0] at q; exact q) (by have q := own_preb (0 : Int32) q0 q1 q2; rw [own_pre0] at q; exact q) (Nat.le_of_ble_eq_true rfl) hK2 jE jC jL jA E126 F127 F128 A129 S1 P1 S6 S7 S8 S9 r9 O130) hZ120 (w_ hw 53 rfl) (w_ hw 30 rfl) (by decide) (by decide)) qa131 qc131 (g := (mkF m 152 #[.val (.int p1), .val (.int p2), .val (.int p3), .val (.int p4), .val (.int p5), .val (.int kj), .val (.int 0), .val (.int 0), .val (.int q0), .val (.int q1), .val (.int q2), .val (.int q3), .val (.ref x102), .val (.ref wa), .val (.int (nar .boolean (own_z 0))), .val (.int (nar .boolean (own_z 0))), .unset] [(.ref x102), (.ref wa)])) rfl (by rw [hml]; rfl) (Steps.refl _) (argsL := [(.ref x102)]) (rest := []) (lenOf pd_413 rfl) rfl (by show 2 * 0 + _ ≤ _; exact Nat.le_of_eq rfl) (hb hby at_152) (fun _ _ => ⟨rfl, e125, (by decide : 8 + 0 ≤ _), (by decide : 21 + 0 ≤ _)⟩)
          dsimp only [Pt.U, Pt.locs, Pt.cells, Pt.slots] at X131 l131 y131 z131 st131 hQ131
          subst l131 y131 z131
          obtain ⟨rfl, Nq131, e131_⟩ := hQ131
          have N131_ := Fr.app N125_ Nq131
          refine FinH.byS st131 ?_
          have e131 := e131_
          refine FinH.by (fun tt_ kk_ => XS.istore X131.here hx rfl (hb hby at_155) rfl (l' := #[.val (.int p1), .val (.int p2), .val (.int p3), .val (.int p4), .val (.int p5), .val (.int kj), .val (.int 0), .val (.int 0), .val (.int q0), .val (.int q1), .val (.int q2), .val (.int q3), .val (.ref x102), .val (.ref wa), .val (.int (nar .boolean (own_z 0))), .val (.int (nar .boolean (own_z 0))), .val (.int (nar .boolean (nar .boolean 1)))]) rfl (XS.iload X131.here hx rfl (hb hby at_157) rfl kk_)) ?_
          show FinH _ _ _ _ _ _ _ _ _ (T131.setTop (mkF m 159 #[.val (.int p1), .val (.int p2), .val (.int p3), .val (.int p4), .val (.int p5), .val (.int kj), .val (.int 0), .val (.int 0), .val (.int q0), .val (.int q1), .val (.int q2), .val (.int q3), .val (.ref x102), .val (.ref wa), .val (.int (nar .boolean (own_z 0))), .val (.int (nar .boolean (own_z 0))), .val (.int (nar .boolean (nar .boolean 1)))] [(.int (nar .boolean (own_z 0)))]))
          refine FinH.by (fun tt_ kk_ => XS.ifNo X131.here hx rfl (hb hby at_159) rfl ((if0 _ _).trans (feq (by decide : ¬ (nar .boolean (own_z (0 : Int32))) = (0 : Int32))).1) kk_) ?_
          refine FinH.by (fun tt_ kk_ => XS.iload X131.here hx rfl (hb hby at_162) rfl (XS.iload X131.here hx rfl (hb hby at_164) rfl kk_)) ?_
          show FinH _ _ _ _ _ _ _ _ _ (T131.setTop (mkF m 166 #[.val (.int p1), .val (.int p2), .val (.int p3), .val (.int p4), .val (.int p5), .val (.int kj), .val (.int 0), .val (.int 0), .val (.int q0), .val (.int q1), .val (.int q2), .val (.int q3), .val (.ref x102), .val (.ref wa), .val (.int (nar .boolean (own_z 0))), .val (.int (nar .boolean (own_z 0))), .val (.int (nar .boolean (nar .boolean 1)))] [(.int 0), (.int (nar .boolean (own_z 0)))]))
          refine FinH.by (fun tt_ kk_ => XS.ifNo X131.here hx rfl (hb hby at_166) rfl ((if0 _ _).trans (teq (by decide : (0 : Int32) = (0 : Int32))).2) kk_) ?_
          refine FinH.by (fun tt_ kk_ => XS.iconst X131.here hx rfl (hb hby at_169) (XS.goto X131.here hx rfl (pc0 := 170) (pc' := 174) rfl (hb hby at_170) (by decide) (by decide) kk_)) ?_
          show FinH _ _ _ _ _ _ _ _ _ (T131.setTop (mkF m 174 #[.val (.int p1), .val (.int p2), .val (.int p3), .val (.int p4), .val (.int p5), .val (.int kj), .val (.int 0), .val (.int 0), .val (.int q0), .val (.int q1), .val (.int q2), .val (.int q3), .val (.ref x102), .val (.ref wa), .val (.int (nar .boolean (own_z 0))), .val (.int (nar .boolean (own_z 0))), .val (.int (nar .boolean (nar .boolean 1)))] [(.int 1), (.int (nar .boolean (own_z 0)))]))
          refine FinH.by (fun tt_ kk_ => XS.icmpNo X131.here hx rfl (hb hby at_174) rfl (teq (by decide : (nar .boolean (own_z (0 : Int32))) = (1 : Int32))).2 kk_) ?_
          refine FinH.by (fun tt_ kk_ => XS.iload X131.here hx rfl (hb hby at_177) rfl (XS.iload X131.here hx rfl (hb hby at_179) rfl (XS.iload X131.here hx rfl (hb hby at_181) rfl kk_))) ?_
          show FinH _ _ _ _ _ _ _ _ _ (T131.setTop (mkF m 183 #[.val (.int p1), .val (.int p2), .val (.int p3), .val (.int p4), .val (.int p5), .val (.int kj), .val (.int 0), .val (.int 0), .val (.int q0), .val (.int q1), .val (.int q2), .val (.int q3), .val (.ref x102), .val (.ref wa), .val (.int (nar .boolean (own_z 0))), .val (.int (nar .boolean (own_z 0))), .val (.int (nar .boolean (nar .boolean 1)))] [(.int 0), (.int 0), (.int (nar .boolean (nar .boolean 1)))]))
          refine FinH.by (fun tt_ kk_ => XS.icmpNo X131.here hx rfl (hb hby at_183) rfl (teq (rfl : (0 : Int32) = (0 : Int32))).2 kk_) ?_
          refine FinH.by (fun tt_ kk_ => XS.iconst X131.here hx rfl (hb hby at_186) (XS.goto X131.here hx rfl (pc0 := 187) (pc' := 191) rfl (hb hby at_187) (by decide) (by decide) kk_)) ?_
          show FinH _ _ _ _ _ _ _ _ _ (T131.setTop (mkF m 191 #[.val (.int p1), .val (.int p2), .val (.int p3), .val (.int p4), .val (.int p5), .val (.int kj), .val (.int 0), .val (.int 0), .val (.int q0), .val (.int q1), .val (.int q2), .val (.int q3), .val (.ref x102), .val (.ref wa), .val (.int (nar .boolean (own_z 0))), .val (.int (nar .boolean (own_z 0))), .val (.int (nar .boolean (nar .boolean 1)))] [(.int 1), (.int (nar .boolean (nar .boolean 1)))]))
          refine FinH.by (fun tt_ kk_ => XS.icmpNo X131.here hx rfl (hb hby at_191) rfl (teq (by decide : (nar .boolean (nar .boolean (1 : Int32))) = (1 : Int32))).2 kk_) ?_
          refine FinH.by (fun tt_ kk_ => XS.iconst X131.here hx rfl (hb hby at_194) (XS.goto X131.here hx rfl (pc0 := 195) (pc' := 199) rfl (hb hby at_195) (by decide) (by decide) kk_)) ?_
          show FinH _ _ _ _ _ _ _ _ _ (T131.setTop (mkF m 199 #[.val (.int p1), .val (.int p2), .val (.int p3), .val (.int p4), .val (.int p5), .val (.int kj), .val (.int 0), .val (.int 0), .val (.int q0), .val (.int q1), .val (.int q2), .val (.int q3), .val (.ref x102), .val (.ref wa), .val (.int (nar .boolean (own_z 0))), .val (.int (nar .boolean (own_z 0))), .val (.int (nar .boolean (nar .boolean 1)))] [(.int 1)]))
          exact FinH.ret (v := some (.int (nar .boolean (1 : Int32)))) X131 hS118 (by rw [e131]; exact hk119) (fun h => by rw [Bd.returns] at h; cases h) Bd.notSynchronized (by rw [e131]; exact ⟨rfl, N131_⟩) (by rw [hh, e131]; exact ch123.trans (CHv.at X131 hZ120 own_EW ch123.1)) (by decide) (by decide) (fun fs hr => retN X131 hx (t := .boolean) Bd.returns (by simp) (hb hby at_199) hr)
        · subst hnm
          subst hLm
          rw [own_pre1] at hT hK2
          have E132 : Exa Z h110 x102 "java/lang/String" := (p101_1.keep K115)
          have F133 : Fld Z h110 x102 "java/lang/String" "value" "[B" (.ref t103) := (p101_2.keep K115 nin0)
          have F134 : Fld Z h110 x102 "java/lang/String" "coder" "B" (.int cd107) := (p101_3.keep K115 nin0)
          have A135 : Arv Z h110 t103 kb104 .byte N105 vs106 (.int 0) := (p101_4.keep K115 nin0)
          have O136 : Old Z n0 h110 := ((OL.keep p101_0 all0).keep K115 all0)
          obtain ⟨cq137, kq137, qa137, qb137, qc137⟩ := isOf hZ120 e125 jE
          obtain ⟨v137, _, ⟨T137, L137, k137, n137⟩, -, X137, ⟨Lc137, hQ137, l137, y137, z137⟩, st137⟩ := X125.virtualBack hx (y := y_23) (z := y_23) hown121 (mvT hZ120 (w_ hw 49 rfl)) (mvT hZ120 (w_ hw 50 rfl)) (notFace_of_selects (args := #[]) (mvT hZ120 (w_ hw 52 rfl))) (mvT hZ120 (w_ hw 52 rfl)) (mvT hZ120 (w_ hw 51 rfl)) (by decide) (backOf (W := 0) (rm_isx1 l Z a0 hw [] wa wb wk kj (v2 : List Value) (nar .char q0) x102 t103 kb104 N105 (vs106 : List Value) cd107 G1 G9 h110 n0 z124 (by have q := p101_5; rw [own_pre1] at q; exact q) (by have q := own_preb (1 : Int32) q0 q1 q2; rw [own_pre1] at q; exact q) (Nat.le_of_ble_eq_true rfl) (own_tk hT 0 (Nat.le_of_ble_eq_true rfl)) hK2 jE jC jL jA E132 F133 F134 A135 S1 P1 S6 S7 S8 S9 r9 O136) hZ120 (w_ hw 53 rfl) (w_ hw 30 rfl) (by decide) (by decide)) qa137 qc137 (g := (mkF m 152 #[.val (.int p1), .val (.int p2), .val (.int p3), .val (.int p4), .val (.int p5), .val (.int kj), .val (.int 1), .val (.int 1), .val (.int q0), .val (.int q1), .val (.int q2), .val (.int q3), .val (.ref x102), .val (.ref wa), .val (.int (nar .boolean (own_z 0))), .val (.int (nar .boolean (own_z 1))), .unset] [(.ref x102), (.ref wa)])) rfl (by rw [hml]; rfl) (Steps.refl _) (argsL := [(.ref x102)]) (rest := []) (lenOf pd_413 rfl) rfl (by show 2 * 0 + _ ≤ _; exact Nat.le_of_eq rfl) (hb hby at_152) (fun _ _ => ⟨rfl, e125, (by decide : 8 + 0 ≤ _), (by decide : 21 + 0 ≤ _)⟩)
          dsimp only [Pt.U, Pt.locs, Pt.cells, Pt.slots] at X137 l137 y137 z137 st137 hQ137
          subst l137 y137 z137
          obtain ⟨rfl, Nq137, e137_⟩ := hQ137
          have N137_ := Fr.app N125_ Nq137
          refine FinH.byS st137 ?_
          have e137 := e137_
          refine FinH.by (fun tt_ kk_ => XS.istore X137.here hx rfl (hb hby at_155) rfl (l' := #[.val (.int p1), .val (.int p2), .val (.int p3), .val (.int p4), .val (.int p5), .val (.int kj), .val (.int 1), .val (.int 1), .val (.int q0), .val (.int q1), .val (.int q2), .val (.int q3), .val (.ref x102), .val (.ref wa), .val (.int (nar .boolean (own_z 0))), .val (.int (nar .boolean (own_z 1))), .val (.int (nar .boolean (nar .boolean 1)))]) rfl (XS.iload X137.here hx rfl (hb hby at_157) rfl kk_)) ?_
          show FinH _ _ _ _ _ _ _ _ _ (T137.setTop (mkF m 159 #[.val (.int p1), .val (.int p2), .val (.int p3), .val (.int p4), .val (.int p5), .val (.int kj), .val (.int 1), .val (.int 1), .val (.int q0), .val (.int q1), .val (.int q2), .val (.int q3), .val (.ref x102), .val (.ref wa), .val (.int (nar .boolean (own_z 0))), .val (.int (nar .boolean (own_z 1))), .val (.int (nar .boolean (nar .boolean 1)))] [(.int (nar .boolean (own_z 0)))]))
          refine FinH.by (fun tt_ kk_ => XS.ifNo X137.here hx rfl (hb hby at_159) rfl ((if0 _ _).trans (feq (by decide : ¬ (nar .boolean (own_z (0 : Int32))) = (0 : Int32))).1) kk_) ?_
          refine FinH.by (fun tt_ kk_ => XS.iload X137.here hx rfl (hb hby at_162) rfl (XS.iload X137.here hx rfl (hb hby at_164) rfl kk_)) ?_
          show FinH _ _ _ _ _ _ _ _ _ (T137.setTop (mkF m 166 #[.val (.int p1), .val (.int p2), .val (.int p3), .val (.int p4), .val (.int p5), .val (.int kj), .val (.int 1), .val (.int 1), .val (.int q0), .val (.int q1), .val (.int q2), .val (.int q3), .val (.ref x102), .val (.ref wa), .val (.int (nar .boolean (own_z 0))), .val (.int (nar .boolean (own_z 1))), .val (.int (nar .boolean (nar .boolean 1)))] [(.int 1), (.int (nar .boolean (own_z 1)))]))
          refine FinH.by (fun tt_ kk_ => XS.ifYes X137.here hx rfl (pc0 := 166) (pc' := 173) rfl (hb hby at_166) rfl ((if0 _ _).trans (feq (by decide : ¬ (1 : Int32) = (0 : Int32))).2) (by decide) (by decide) kk_) ?_
          refine FinH.by (fun tt_ kk_ => XS.iconst X137.here hx rfl (hb hby at_173) kk_) ?_
          show FinH _ _ _ _ _ _ _ _ _ (T137.setTop (mkF m 174 #[.val (.int p1), .val (.int p2), .val (.int p3), .val (.int p4), .val (.int p5), .val (.int kj), .val (.int 1), .val (.int 1), .val (.int q0), .val (.int q1), .val (.int q2), .val (.int q3), .val (.ref x102), .val (.ref wa), .val (.int (nar .boolean (own_z 0))), .val (.int (nar .boolean (own_z 1))), .val (.int (nar .boolean (nar .boolean 1)))] [(.int 0), (.int (nar .boolean (own_z 1)))]))
          refine FinH.by (fun tt_ kk_ => XS.icmpNo X137.here hx rfl (hb hby at_174) rfl (teq (by decide : (nar .boolean (own_z (1 : Int32))) = (0 : Int32))).2 kk_) ?_
          refine FinH.by (fun tt_ kk_ => XS.iload X137.here hx rfl (hb hby at_177) rfl (XS.iload X137.here hx rfl (hb hby at_179) rfl (XS.iload X137.here hx rfl (hb hby at_181) rfl kk_))) ?_
          show FinH _ _ _ _ _ _ _ _ _ (T137.setTop (mkF m 183 #[.val (.int p1), .val (.int p2), .val (.int p3), .val (.int p4), .val (.int p5), .val (.int kj), .val (.int 1), .val (.int 1), .val (.int q0), .val (.int q1), .val (.int q2), .val (.int q3), .val (.ref x102), .val (.ref wa), .val (.int (nar .boolean (own_z 0))), .val (.int (nar .boolean (own_z 1))), .val (.int (nar .boolean (nar .boolean 1)))] [(.int 1), (.int 1), (.int (nar .boolean (nar .boolean 1)))]))
          refine FinH.by (fun tt_ kk_ => XS.icmpNo X137.here hx rfl (hb hby at_183) rfl (teq (rfl : (1 : Int32) = (1 : Int32))).2 kk_) ?_
          refine FinH.by (fun tt_ kk_ => XS.iconst X137.here hx rfl (hb hby at_186) (XS.goto X137.here hx rfl (pc0 := 187) (pc' := 191) rfl (hb hby at_187) (by decide) (by decide) kk_)) ?_
          show FinH _ _ _ _ _ _ _ _ _ (T137.setTop (mkF m 191 #[.val (.int p1), .val (.int p2), .val (.int p3), .val (.int p4), .val (.int p5), .val (.int kj), .val (.int 1), .val (.int 1), .val (.int q0), .val (.int q1), .val (.int q2), .val (.int q3), .val (.ref x102), .val (.ref wa), .val (.int (nar .boolean (own_z 0))), .val (.int (nar .boolean (own_z 1))), .val (.int (nar .boolean (nar .boolean 1)))] [(.int 1), (.int (nar .boolean (nar .boolean 1)))]))
          refine FinH.by (fun tt_ kk_ => XS.icmpNo X137.here hx rfl (hb hby at_191) rfl (teq (by decide : (nar .boolean (nar .boolean (1 : Int32))) = (1 : Int32))).2 kk_) ?_
          refine FinH.by (fun tt_ kk_ => XS.iconst X137.here hx rfl (hb hby at_194) (XS.goto X137.here hx rfl (pc0 := 195) (pc' := 199) rfl (hb hby at_195) (by decide) (by decide) kk_)) ?_
          show FinH _ _ _ _ _ _ _ _ _ (T137.setTop (mkF m 199 #[.val (.int p1), .val (.int p2), .val (.int p3), .val (.int p4), .val (.int p5), .val (.int kj), .val (.int 1), .val (.int 1), .val (.int q0), .val (.int q1), .val (.int q2), .val (.int q3), .val (.ref x102), .val (.ref wa), .val (.int (nar .boolean (own_z 0))), .val (.int (nar .boolean (own_z 1))), .val (.int (nar .boolean (nar .boolean 1)))] [(.int 1)]))
          exact FinH.ret (v := some (.int (nar .boolean (1 : Int32)))) X137 hS118 (by rw [e137]; exact hk119) (fun h => by rw [Bd.returns] at h; cases h) Bd.notSynchronized (by rw [e137]; exact ⟨rfl, N137_⟩) (by rw [hh, e137]; exact ch123.trans (CHv.at X137 hZ120 own_EW ch123.1)) (by decide) (by decide) (fun fs hr => retN X137 hx (t := .boolean) Bd.returns (by simp) (hb hby at_199) hr)
        · subst hnm
          subst hLm
          rw [own_pre2] at hT hK2
          have E138 : Exa Z h110 x102 "java/lang/String" := (p101_1.keep K115)
          have F139 : Fld Z h110 x102 "java/lang/String" "value" "[B" (.ref t103) := (p101_2.keep K115 nin0)
          have F140 : Fld Z h110 x102 "java/lang/String" "coder" "B" (.int cd107) := (p101_3.keep K115 nin0)
          have A141 : Arv Z h110 t103 kb104 .byte N105 vs106 (.int 0) := (p101_4.keep K115 nin0)
          have O142 : Old Z n0 h110 := ((OL.keep p101_0 all0).keep K115 all0)
          obtain ⟨cq143, kq143, qa143, qb143, qc143⟩ := isOf hZ120 e125 jE
          obtain ⟨v143, _, ⟨T143, L143, k143, n143⟩, -, X143, ⟨Lc143, hQ143, l143, y143, z143⟩, st143⟩ := X125.virtualBack hx (y := y_23) (z := y_23) hown121 (mvT hZ120 (w_ hw 49 rfl)) (mvT hZ120 (w_ hw 50 rfl)) (notFace_of_selects (args := #[]) (mvT hZ120 (w_ hw 52 rfl))) (mvT hZ120 (w_ hw 52 rfl)) (mvT hZ120 (w_ hw 51 rfl)) (by decide) (backOf (W := 0) (rm_isx2 l Z a0 hw [] wa wb wk kj (v2 : List Value) (nar .char q0) (nar .char q1) x102 t103 kb104 N105 (vs106 : List Value) cd107 G1 G9 h110 n0 z124 (by have q := p101_5; rw [own_pre2] at q; exact q) (by have q := own_preb (2 : Int32) q0 q1 q2; rw [own_pre2] at q; exact q) (Nat.le_of_ble_eq_true rfl) (own_tk hT 0 (Nat.le_of_ble_eq_true rfl)) (own_tk hT 1 (Nat.le_of_ble_eq_true rfl)) hK2 jE jC jL jA E138 F139 F140 A141 S1 P1 S6 S7 S8 S9 r9 O142) hZ120 (w_ hw 53 rfl) (w_ hw 30 rfl) (by decide) (by decide)) qa143 qc143 (g := (mkF m 152 #[.val (.int p1), .val (.int p2), .val (.int p3), .val (.int p4), .val (.int p5), .val (.int kj), .val (.int 2), .val (.int 2), .val (.int q0), .val (.int q1), .val (.int q2), .val (.int q3), .val (.ref x102), .val (.ref wa), .val (.int (nar .boolean (own_z 0))), .val (.int (nar .boolean (own_z 2))), .unset] [(.ref x102), (.ref wa)])) rfl (by rw [hml]; rfl) (Steps.refl _) (argsL := [(.ref x102)]) (rest := []) (lenOf pd_413 rfl) rfl (by show 2 * 0 + _ ≤ _; exact Nat.le_of_eq rfl) (hb hby at_152) (fun _ _ => ⟨rfl, e125, (by decide : 8 + 0 ≤ _), (by decide : 21 + 0 ≤ _)⟩)
          dsimp only [Pt.U, Pt.locs, Pt.cells, Pt.slots] at X143 l143 y143 z143 st143 hQ143
          subst l143 y143 z143
          obtain ⟨rfl, Nq143, e143_⟩ := hQ143
          have N143_ := Fr.app N125_ Nq143
          refine FinH.byS st143 ?_
          have e143 := e143_
          refine FinH.by (fun tt_ kk_ => XS.istore X143.here hx rfl (hb hby at_155) rfl (l' := #[.val (.int p1), .val (.int p2), .val (.int p3), .val (.int p4), .val (.int p5), .val (.int kj), .val (.int 2), .val (.int 2), .val (.int q0), .val (.int q1), .val (.int q2), .val (.int q3), .val (.ref x102), .val (.ref wa), .val (.int (nar .boolean (own_z 0))), .val (.int (nar .boolean (own_z 2))), .val (.int (nar .boolean (nar .boolean 1)))]) rfl (XS.iload X143.here hx rfl (hb hby at_157) rfl kk_)) ?_
          show FinH _ _ _ _ _ _ _ _ _ (T143.setTop (mkF m 159 #[.val (.int p1), .val (.int p2), .val (.int p3), .val (.int p4), .val (.int p5), .val (.int kj), .val (.int 2), .val (.int 2), .val (.int q0), .val (.int q1), .val (.int q2), .val (.int q3), .val (.ref x102), .val (.ref wa), .val (.int (nar .boolean (own_z 0))), .val (.int (nar .boolean (own_z 2))), .val (.int (nar .boolean (nar .boolean 1)))] [(.int (nar .boolean (own_z 0)))]))
          refine FinH.by (fun tt_ kk_ => XS.ifNo X143.here hx rfl (hb hby at_159) rfl ((if0 _ _).trans (feq (by decide : ¬ (nar .boolean (own_z (0 : Int32))) = (0 : Int32))).1) kk_) ?_
          refine FinH.by (fun tt_ kk_ => XS.iload X143.here hx rfl (hb hby at_162) rfl (XS.iload X143.here hx rfl (hb hby at_164) rfl kk_)) ?_
          show FinH _ _ _ _ _ _ _ _ _ (T143.setTop (mkF m 166 #[.val (.int p1), .val (.int p2), .val (.int p3), .val (.int p4), .val (.int p5), .val (.int kj), .val (.int 2), .val (.int 2), .val (.int q0), .val (.int q1), .val (.int q2), .val (.int q3), .val (.ref x102), .val (.ref wa), .val (.int (nar .boolean (own_z 0))), .val (.int (nar .boolean (own_z 2))), .val (.int (nar .boolean (nar .boolean 1)))] [(.int 2), (.int (nar .boolean (own_z 2)))]))
          refine FinH.by (fun tt_ kk_ => XS.ifYes X143.here hx rfl (pc0 := 166) (pc' := 173) rfl (hb hby at_166) rfl ((if0 _ _).trans (feq (by decide : ¬ (2 : Int32) = (0 : Int32))).2) (by decide) (by decide) kk_) ?_
          refine FinH.by (fun tt_ kk_ => XS.iconst X143.here hx rfl (hb hby at_173) kk_) ?_
          show FinH _ _ _ _ _ _ _ _ _ (T143.setTop (mkF m 174 #[.val (.int p1), .val (.int p2), .val (.int p3), .val (.int p4), .val (.int p5), .val (.int kj), .val (.int 2), .val (.int 2), .val (.int q0), .val (.int q1), .val (.int q2), .val (.int q3), .val (.ref x102), .val (.ref wa), .val (.int (nar .boolean (own_z 0))), .val (.int (nar .boolean (own_z 2))), .val (.int (nar .boolean (nar .boolean 1)))] [(.int 0), (.int (nar .boolean (own_z 2)))]))
          refine FinH.by (fun tt_ kk_ => XS.icmpNo X143.here hx rfl (hb hby at_174) rfl (teq (by decide : (nar .boolean (own_z (2 : Int32))) = (0 : Int32))).2 kk_) ?_
          refine FinH.by (fun tt_ kk_ => XS.iload X143.here hx rfl (hb hby at_177) rfl (XS.iload X143.here hx rfl (hb hby at_179) rfl (XS.iload X143.here hx rfl (hb hby at_181) rfl kk_))) ?_
          show FinH _ _ _ _ _ _ _ _ _ (T143.setTop (mkF m 183 #[.val (.int p1), .val (.int p2), .val (.int p3), .val (.int p4), .val (.int p5), .val (.int kj), .val (.int 2), .val (.int 2), .val (.int q0), .val (.int q1), .val (.int q2), .val (.int q3), .val (.ref x102), .val (.ref wa), .val (.int (nar .boolean (own_z 0))), .val (.int (nar .boolean (own_z 2))), .val (.int (nar .boolean (nar .boolean 1)))] [(.int 2), (.int 2), (.int (nar .boolean (nar .boolean 1)))]))
          refine FinH.by (fun tt_ kk_ => XS.icmpNo X143.here hx rfl (hb hby at_183) rfl (teq (rfl : (2 : Int32) = (2 : Int32))).2 kk_) ?_
          refine FinH.by (fun tt_ kk_ => XS.iconst X143.here hx rfl (hb hby at_186) (XS.goto X143.here hx rfl (pc0 := 187) (pc' := 191) rfl (hb hby at_187) (by decide) (by decide) kk_)) ?_
          show FinH _ _ _ _ _ _ _ _ _ (T143.setTop (mkF m 191 #[.val (.int p1), .val (.int p2), .val (.int p3), .val (.int p4), .val (.int p5), .val (.int kj), .val (.int 2), .val (.int 2), .val (.int q0), .val (.int q1), .val (.int q2), .val (.int q3), .val (.ref x102), .val (.ref wa), .val (.int (nar .boolean (own_z 0))), .val (.int (nar .boolean (own_z 2))), .val (.int (nar .boolean (nar .boolean 1)))] [(.int 1), (.int (nar .boolean (nar .boolean 1)))]))
          refine FinH.by (fun tt_ kk_ => XS.icmpNo X143.here hx rfl (hb hby at_191) rfl (teq (by decide : (nar .boolean (nar .boolean (1 : Int32))) = (1 : Int32))).2 kk_) ?_
          refine FinH.by (fun tt_ kk_ => XS.iconst X143.here hx rfl (hb hby at_194) (XS.goto X143.here hx rfl (pc0 := 195) (pc' := 199) rfl (hb hby at_195) (by decide) (by decide) kk_)) ?_
          show FinH _ _ _ _ _ _ _ _ _ (T143.setTop (mkF m 199 #[.val (.int p1), .val (.int p2), .val (.int p3), .val (.int p4), .val (.int p5), .val (.int kj), .val (.int 2), .val (.int 2), .val (.int q0), .val (.int q1), .val (.int q2), .val (.int q3), .val (.ref x102), .val (.ref wa), .val (.int (nar .boolean (own_z 0))), .val (.int (nar .boolean (own_z 2))), .val (.int (nar .boolean (nar .boolean 1)))] [(.int 1)]))
          exact FinH.ret (v := some (.int (nar .boolean (1 : Int32)))) X143 hS118 (by rw [e143]; exact hk119) (fun h => by rw [Bd.returns] at h; cases h) Bd.notSynchronized (by rw [e143]; exact ⟨rfl, N143_⟩) (by rw [hh, e143]; exact ch123.trans (CHv.at X143 hZ120 own_EW ch123.1)) (by decide) (by decide) (fun fs hr => retN X143 hx (t := .boolean) Bd.returns (by simp) (hb hby at_199) hr)
        · subst hnm
          subst hLm
          rw [own_pre3] at hT hK2
          have E144 : Exa Z h110 x102 "java/lang/String" := (p101_1.keep K115)
          have F145 : Fld Z h110 x102 "java/lang/String" "value" "[B" (.ref t103) := (p101_2.keep K115 nin0)
          have F146 : Fld Z h110 x102 "java/lang/String" "coder" "B" (.int cd107) := (p101_3.keep K115 nin0)
          have A147 : Arv Z h110 t103 kb104 .byte N105 vs106 (.int 0) := (p101_4.keep K115 nin0)
          have O148 : Old Z n0 h110 := ((OL.keep p101_0 all0).keep K115 all0)
          obtain ⟨cq149, kq149, qa149, qb149, qc149⟩ := isOf hZ120 e125 jE
          obtain ⟨v149, _, ⟨T149, L149, k149, n149⟩, -, X149, ⟨Lc149, hQ149, l149, y149, z149⟩, st149⟩ := X125.virtualBack hx (y := y_23) (z := y_23) hown121 (mvT hZ120 (w_ hw 49 rfl)) (mvT hZ120 (w_ hw 50 rfl)) (notFace_of_selects (args := #[]) (mvT hZ120 (w_ hw 52 rfl))) (mvT hZ120 (w_ hw 52 rfl)) (mvT hZ120 (w_ hw 51 rfl)) (by decide) (backOf (W := 0) (rm_isx3 l Z a0 hw [] wa wb wk kj (v2 : List Value) (nar .char q0) (nar .char q1) (nar .char q2) x102 t103 kb104 N105 (vs106 : List Value) cd107 G1 G9 h110 n0 z124 (by have q := p101_5; rw [own_pre3] at q; exact q) (by have q := own_preb (3 : Int32) q0 q1 q2; rw [own_pre3] at q; exact q) (Nat.le_of_ble_eq_true rfl) (own_tk hT 0 (Nat.le_of_ble_eq_true rfl)) (own_tk hT 1 (Nat.le_of_ble_eq_true rfl)) (own_tk hT 2 (Nat.le_of_ble_eq_true rfl)) hK2 jE jC jL jA E144 F145 F146 A147 S1 P1 S6 S7 S8 S9 r9 O148) hZ120 (w_ hw 53 rfl) (w_ hw 30 rfl) (by decide) (by decide)) qa149 qc149 (g := (mkF m 152 #[.val (.int p1), .val (.int p2), .val (.int p3), .val (.int p4), .val (.int p5), .val (.int kj), .val (.int 3), .val (.int 3), .val (.int q0), .val (.int q1), .val (.int q2), .val (.int q3), .val (.ref x102), .val (.ref wa), .val (.int (nar .boolean (own_z 0))), .val (.int (nar .boolean (own_z 3))), .unset] [(.ref x102), (.ref wa)])) rfl (by rw [hml]; rfl) (Steps.refl _) (argsL := [(.ref x102)]) (rest := []) (lenOf pd_413 rfl) rfl (by show 2 * 0 + _ ≤ _; exact Nat.le_of_eq rfl) (hb hby at_152) (fun _ _ => ⟨rfl, e125, (by decide : 8 + 0 ≤ _), (by decide : 21 + 0 ≤ _)⟩)
          dsimp only [Pt.U, Pt.locs, Pt.cells, Pt.slots] at X149 l149 y149 z149 st149 hQ149
          subst l149 y149 z149
          obtain ⟨rfl, Nq149, e149_⟩ := hQ149
          have N149_ := Fr.app N125_ Nq149
          refine FinH.byS st149 ?_
          have e149 := e149_
          refine FinH.by (fun tt_ kk_ => XS.istore X149.here hx rfl (hb hby at_155) rfl (l' := #[.val (.int p1), .val (.int p2), .val (.int p3), .val (.int p4), .val (.int p5), .val (.int kj), .val (.int 3), .val (.int 3), .val (.int q0), .val (.int q1), .val (.int q2), .val (.int q3), .val (.ref x102), .val (.ref wa), .val (.int (nar .boolean (own_z 0))), .val (.int (nar .boolean (own_z 3))), .val (.int (nar .boolean (nar .boolean 1)))]) rfl (XS.iload X149.here hx rfl (hb hby at_157) rfl kk_)) ?_
          show FinH _ _ _ _ _ _ _ _ _ (T149.setTop (mkF m 159 #[.val (.int p1), .val (.int p2), .val (.int p3), .val (.int p4), .val (.int p5), .val (.int kj), .val (.int 3), .val (.int 3), .val (.int q0), .val (.int q1), .val (.int q2), .val (.int q3), .val (.ref x102), .val (.ref wa), .val (.int (nar .boolean (own_z 0))), .val (.int (nar .boolean (own_z 3))), .val (.int (nar .boolean (nar .boolean 1)))] [(.int (nar .boolean (own_z 0)))]))
          refine FinH.by (fun tt_ kk_ => XS.ifNo X149.here hx rfl (hb hby at_159) rfl ((if0 _ _).trans (feq (by decide : ¬ (nar .boolean (own_z (0 : Int32))) = (0 : Int32))).1) kk_) ?_
          refine FinH.by (fun tt_ kk_ => XS.iload X149.here hx rfl (hb hby at_162) rfl (XS.iload X149.here hx rfl (hb hby at_164) rfl kk_)) ?_
          show FinH _ _ _ _ _ _ _ _ _ (T149.setTop (mkF m 166 #[.val (.int p1), .val (.int p2), .val (.int p3), .val (.int p4), .val (.int p5), .val (.int kj), .val (.int 3), .val (.int 3), .val (.int q0), .val (.int q1), .val (.int q2), .val (.int q3), .val (.ref x102), .val (.ref wa), .val (.int (nar .boolean (own_z 0))), .val (.int (nar .boolean (own_z 3))), .val (.int (nar .boolean (nar .boolean 1)))] [(.int 3), (.int (nar .boolean (own_z 3)))]))
          refine FinH.by (fun tt_ kk_ => XS.ifYes X149.here hx rfl (pc0 := 166) (pc' := 173) rfl (hb hby at_166) rfl ((if0 _ _).trans (feq (by decide : ¬ (3 : Int32) = (0 : Int32))).2) (by decide) (by decide) kk_) ?_
          refine FinH.by (fun tt_ kk_ => XS.iconst X149.here hx rfl (hb hby at_173) kk_) ?_
          show FinH _ _ _ _ _ _ _ _ _ (T149.setTop (mkF m 174 #[.val (.int p1), .val (.int p2), .val (.int p3), .val (.int p4), .val (.int p5), .val (.int kj), .val (.int 3), .val (.int 3), .val (.int q0), .val (.int q1), .val (.int q2), .val (.int q3), .val (.ref x102), .val (.ref wa), .val (.int (nar .boolean (own_z 0))), .val (.int (nar .boolean (own_z 3))), .val (.int (nar .boolean (nar .boolean 1)))] [(.int 0), (.int (nar .boolean (own_z 3)))]))
          refine FinH.by (fun tt_ kk_ => XS.icmpNo X149.here hx rfl (hb hby at_174) rfl (teq (by decide : (nar .boolean (own_z (3 : Int32))) = (0 : Int32))).2 kk_) ?_
          refine FinH.by (fun tt_ kk_ => XS.iload X149.here hx rfl (hb hby at_177) rfl (XS.iload X149.here hx rfl (hb hby at_179) rfl (XS.iload X149.here hx rfl (hb hby at_181) rfl kk_))) ?_
          show FinH _ _ _ _ _ _ _ _ _ (T149.setTop (mkF m 183 #[.val (.int p1), .val (.int p2), .val (.int p3), .val (.int p4), .val (.int p5), .val (.int kj), .val (.int 3), .val (.int 3), .val (.int q0), .val (.int q1), .val (.int q2), .val (.int q3), .val (.ref x102), .val (.ref wa), .val (.int (nar .boolean (own_z 0))), .val (.int (nar .boolean (own_z 3))), .val (.int (nar .boolean (nar .boolean 1)))] [(.int 3), (.int 3), (.int (nar .boolean (nar .boolean 1)))]))
          refine FinH.by (fun tt_ kk_ => XS.icmpNo X149.here hx rfl (hb hby at_183) rfl (teq (rfl : (3 : Int32) = (3 : Int32))).2 kk_) ?_
          refine FinH.by (fun tt_ kk_ => XS.iconst X149.here hx rfl (hb hby at_186) (XS.goto X149.here hx rfl (pc0 := 187) (pc' := 191) rfl (hb hby at_187) (by decide) (by decide) kk_)) ?_
          show FinH _ _ _ _ _ _ _ _ _ (T149.setTop (mkF m 191 #[.val (.int p1), .val (.int p2), .val (.int p3), .val (.int p4), .val (.int p5), .val (.int kj), .val (.int 3), .val (.int 3), .val (.int q0), .val (.int q1), .val (.int q2), .val (.int q3), .val (.ref x102), .val (.ref wa), .val (.int (nar .boolean (own_z 0))), .val (.int (nar .boolean (own_z 3))), .val (.int (nar .boolean (nar .boolean 1)))] [(.int 1), (.int (nar .boolean (nar .boolean 1)))]))
          refine FinH.by (fun tt_ kk_ => XS.icmpNo X149.here hx rfl (hb hby at_191) rfl (teq (by decide : (nar .boolean (nar .boolean (1 : Int32))) = (1 : Int32))).2 kk_) ?_
          refine FinH.by (fun tt_ kk_ => XS.iconst X149.here hx rfl (hb hby at_194) (XS.goto X149.here hx rfl (pc0 := 195) (pc' := 199) rfl (hb hby at_195) (by decide) (by decide) kk_)) ?_
          show FinH _ _ _ _ _ _ _ _ _ (T149.setTop (mkF m 199 #[.val (.int p1), .val (.int p2), .val (.int p3), .val (.int p4), .val (.int p5), .val (.int kj), .val (.int 3), .val (.int 3), .val (.int q0), .val (.int q1), .val (.int q2), .val (.int q3), .val (.ref x102), .val (.ref wa), .val (.int (nar .boolean (own_z 0))), .val (.int (nar .boolean (own_z 3))), .val (.int (nar .boolean (nar .boolean 1)))] [(.int 1)]))
          exact FinH.ret (v := some (.int (nar .boolean (1 : Int32)))) X149 hS118 (by rw [e149]; exact hk119) (fun h => by rw [Bd.returns] at h; cases h) Bd.notSynchronized (by rw [e149]; exact ⟨rfl, N149_⟩) (by rw [hh, e149]; exact ch123.trans (CHv.at X149 hZ120 own_EW ch123.1)) (by decide) (by decide) (fun fs hr => retN X149 hx (t := .boolean) Bd.returns (by simp) (hb hby at_199) hr)
      · have E150 : Exa Z h110 x102 "java/lang/String" := (p101_1.keep K115)
        have F151 : Fld Z h110 x102 "java/lang/String" "value" "[B" (.ref t103) := (p101_2.keep K115 nin0)
        have F152 : Fld Z h110 x102 "java/lang/String" "coder" "B" (.int cd107) := (p101_3.keep K115 nin0)
        have A153 : Arv Z h110 t103 kb104 .byte N105 vs106 (.int 0) := (p101_4.keep K115 nin0)
        have O154 : Old Z n0 h110 := ((OL.keep p101_0 all0).keep K115 all0)
        obtain ⟨cq155, kq155, qa155, qb155, qc155⟩ := isOf hZ120 e125 jE
        obtain ⟨v155, _, ⟨T155, L155, k155, n155⟩, -, X155, ⟨Lc155, hQ155, l155, y155, z155⟩, st155⟩ := X125.virtualBack hx (y := y_23) (z := y_23) hown121 (mvT hZ120 (w_ hw 49 rfl)) (mvT hZ120 (w_ hw 50 rfl)) (notFace_of_selects (args := #[]) (mvT hZ120 (w_ hw 52 rfl))) (mvT hZ120 (w_ hw 52 rfl)) (mvT hZ120 (w_ hw 51 rfl)) (by decide) (backOf (W := 0) (rm_ine l Z a0 hw [] wa Lv x102 t103 kb104 N105 (vs106 : List Value) cd107 (own_pre mm (nar .char q0) (nar .char q1) (nar .char q2)) G1 G9 h110 n0 z124 (by rw [own_prelen hm.1]; exact hLm) p101_5 (own_preb mm q0 q1 q2) (own_prele _ _ _ _) jE jL E150 F151 F152 A153 S1 P1 S6 S7 S8 S9 r9 O154) hZ120 (w_ hw 53 rfl) (w_ hw 30 rfl) (by decide) (by decide)) qa155 qc155 (g := (mkF m 152 #[.val (.int p1), .val (.int p2), .val (.int p3), .val (.int p4), .val (.int p5), .val (.int kj), .val (.int nj), .val (.int mm), .val (.int q0), .val (.int q1), .val (.int q2), .val (.int q3), .val (.ref x102), .val (.ref wa), .val (.int (nar .boolean (own_z 0))), .val (.int (nar .boolean (own_z Lv))), .unset] [(.ref x102), (.ref wa)])) rfl (by rw [hml]; rfl) (Steps.refl _) (argsL := [(.ref x102)]) (rest := []) (lenOf pd_413 rfl) rfl (by show 2 * 0 + _ ≤ _; exact Nat.le_of_eq rfl) (hb hby at_152) (fun _ _ => ⟨rfl, e125, (by decide : 8 + 0 ≤ _), (by decide : 21 + 0 ≤ _)⟩)
        dsimp only [Pt.U, Pt.locs, Pt.cells, Pt.slots] at X155 l155 y155 z155 st155 hQ155
        subst l155 y155 z155
        obtain ⟨rfl, Nq155, e155_⟩ := hQ155
        have N155_ := Fr.app N125_ Nq155
        refine FinH.byS st155 ?_
        have e155 := e155_
        refine FinH.by (fun tt_ kk_ => XS.istore X155.here hx rfl (hb hby at_155) rfl (l' := #[.val (.int p1), .val (.int p2), .val (.int p3), .val (.int p4), .val (.int p5), .val (.int kj), .val (.int nj), .val (.int mm), .val (.int q0), .val (.int q1), .val (.int q2), .val (.int q3), .val (.ref x102), .val (.ref wa), .val (.int (nar .boolean (own_z 0))), .val (.int (nar .boolean (own_z Lv))), .val (.int (nar .boolean (nar .boolean 0)))]) rfl (XS.iload X155.here hx rfl (hb hby at_157) rfl kk_)) ?_
        rcases hz with ⟨hn0, hl0⟩ | ⟨hn0, hl0⟩
        · show FinH _ _ _ _ _ _ _ _ _ (T155.setTop (mkF m 159 #[.val (.int p1), .val (.int p2), .val (.int p3), .val (.int p4), .val (.int p5), .val (.int kj), .val (.int nj), .val (.int mm), .val (.int q0), .val (.int q1), .val (.int q2), .val (.int q3), .val (.ref x102), .val (.ref wa), .val (.int (nar .boolean (own_z 0))), .val (.int (nar .boolean (own_z Lv))), .val (.int (nar .boolean (nar .boolean 0)))] [(.int (nar .boolean (own_z 0)))]))
          refine FinH.by (fun tt_ kk_ => XS.ifNo X155.here hx rfl (hb hby at_159) rfl ((if0 _ _).trans (feq (by decide : ¬ (nar .boolean (own_z (0 : Int32))) = (0 : Int32))).1) kk_) ?_
          refine FinH.by (fun tt_ kk_ => XS.iload X155.here hx rfl (hb hby at_162) rfl (XS.iload X155.here hx rfl (hb hby at_164) rfl kk_)) ?_
          show FinH _ _ _ _ _ _ _ _ _ (T155.setTop (mkF m 166 #[.val (.int p1), .val (.int p2), .val (.int p3), .val (.int p4), .val (.int p5), .val (.int kj), .val (.int nj), .val (.int mm), .val (.int q0), .val (.int q1), .val (.int q2), .val (.int q3), .val (.ref x102), .val (.ref wa), .val (.int (nar .boolean (own_z 0))), .val (.int (nar .boolean (own_z Lv))), .val (.int (nar .boolean (nar .boolean 0)))] [(.int nj), (.int (nar .boolean (own_z Lv)))]))
          refine FinH.by (fun tt_ kk_ => XS.ifNo X155.here hx rfl (hb hby at_166) rfl ((if0 _ _).trans (teq (hn0 : nj = (0 : Int32))).2) kk_) ?_
          refine FinH.by (fun tt_ kk_ => XS.iconst X155.here hx rfl (hb hby at_169) (XS.goto X155.here hx rfl (pc0 := 170) (pc' := 174) rfl (hb hby at_170) (by decide) (by decide) kk_)) ?_
          show FinH _ _ _ _ _ _ _ _ _ (T155.setTop (mkF m 174 #[.val (.int p1), .val (.int p2), .val (.int p3), .val (.int p4), .val (.int p5), .val (.int kj), .val (.int nj), .val (.int mm), .val (.int q0), .val (.int q1), .val (.int q2), .val (.int q3), .val (.ref x102), .val (.ref wa), .val (.int (nar .boolean (own_z 0))), .val (.int (nar .boolean (own_z Lv))), .val (.int (nar .boolean (nar .boolean 0)))] [(.int 1), (.int (nar .boolean (own_z Lv)))]))
          refine FinH.by (fun tt_ kk_ => XS.icmpNo X155.here hx rfl (hb hby at_174) rfl (teq (by rw [hl0]; decide : (nar .boolean (own_z Lv)) = (1 : Int32))).2 kk_) ?_
          refine FinH.by (fun tt_ kk_ => XS.iload X155.here hx rfl (hb hby at_177) rfl (XS.iload X155.here hx rfl (hb hby at_179) rfl (XS.iload X155.here hx rfl (hb hby at_181) rfl kk_))) ?_
          show FinH _ _ _ _ _ _ _ _ _ (T155.setTop (mkF m 183 #[.val (.int p1), .val (.int p2), .val (.int p3), .val (.int p4), .val (.int p5), .val (.int kj), .val (.int nj), .val (.int mm), .val (.int q0), .val (.int q1), .val (.int q2), .val (.int q3), .val (.ref x102), .val (.ref wa), .val (.int (nar .boolean (own_z 0))), .val (.int (nar .boolean (own_z Lv))), .val (.int (nar .boolean (nar .boolean 0)))] [(.int mm), (.int nj), (.int (nar .boolean (nar .boolean 0)))]))
          refine FinH.by (fun tt_ kk_ => XS.icmpYes X155.here hx rfl (pc0 := 183) (pc' := 190) rfl (hb hby at_183) rfl (feq (hnm : ¬ nj = mm)).2 (by decide) (by decide) kk_) ?_
          refine FinH.by (fun tt_ kk_ => XS.iconst X155.here hx rfl (hb hby at_190) kk_) ?_
          show FinH _ _ _ _ _ _ _ _ _ (T155.setTop (mkF m 191 #[.val (.int p1), .val (.int p2), .val (.int p3), .val (.int p4), .val (.int p5), .val (.int kj), .val (.int nj), .val (.int mm), .val (.int q0), .val (.int q1), .val (.int q2), .val (.int q3), .val (.ref x102), .val (.ref wa), .val (.int (nar .boolean (own_z 0))), .val (.int (nar .boolean (own_z Lv))), .val (.int (nar .boolean (nar .boolean 0)))] [(.int 0), (.int (nar .boolean (nar .boolean 0)))]))
          refine FinH.by (fun tt_ kk_ => XS.icmpNo X155.here hx rfl (hb hby at_191) rfl (teq (by decide : (nar .boolean (nar .boolean (0 : Int32))) = (0 : Int32))).2 kk_) ?_
          refine FinH.by (fun tt_ kk_ => XS.iconst X155.here hx rfl (hb hby at_194) (XS.goto X155.here hx rfl (pc0 := 195) (pc' := 199) rfl (hb hby at_195) (by decide) (by decide) kk_)) ?_
          show FinH _ _ _ _ _ _ _ _ _ (T155.setTop (mkF m 199 #[.val (.int p1), .val (.int p2), .val (.int p3), .val (.int p4), .val (.int p5), .val (.int kj), .val (.int nj), .val (.int mm), .val (.int q0), .val (.int q1), .val (.int q2), .val (.int q3), .val (.ref x102), .val (.ref wa), .val (.int (nar .boolean (own_z 0))), .val (.int (nar .boolean (own_z Lv))), .val (.int (nar .boolean (nar .boolean 0)))] [(.int 1)]))
          exact FinH.ret (v := some (.int (nar .boolean (1 : Int32)))) X155 hS118 (by rw [e155]; exact hk119) (fun h => by rw [Bd.returns] at h; cases h) Bd.notSynchronized (by rw [e155]; exact ⟨rfl, N155_⟩) (by rw [hh, e155]; exact ch123.trans (CHv.at X155 hZ120 own_EW ch123.1)) (by decide) (by decide) (fun fs hr => retN X155 hx (t := .boolean) Bd.returns (by simp) (hb hby at_199) hr)
        · show FinH _ _ _ _ _ _ _ _ _ (T155.setTop (mkF m 159 #[.val (.int p1), .val (.int p2), .val (.int p3), .val (.int p4), .val (.int p5), .val (.int kj), .val (.int nj), .val (.int mm), .val (.int q0), .val (.int q1), .val (.int q2), .val (.int q3), .val (.ref x102), .val (.ref wa), .val (.int (nar .boolean (own_z 0))), .val (.int (nar .boolean (own_z Lv))), .val (.int (nar .boolean (nar .boolean 0)))] [(.int (nar .boolean (own_z 0)))]))
          refine FinH.by (fun tt_ kk_ => XS.ifNo X155.here hx rfl (hb hby at_159) rfl ((if0 _ _).trans (feq (by decide : ¬ (nar .boolean (own_z (0 : Int32))) = (0 : Int32))).1) kk_) ?_
          refine FinH.by (fun tt_ kk_ => XS.iload X155.here hx rfl (hb hby at_162) rfl (XS.iload X155.here hx rfl (hb hby at_164) rfl kk_)) ?_
          show FinH _ _ _ _ _ _ _ _ _ (T155.setTop (mkF m 166 #[.val (.int p1), .val (.int p2), .val (.int p3), .val (.int p4), .val (.int p5), .val (.int kj), .val (.int nj), .val (.int mm), .val (.int q0), .val (.int q1), .val (.int q2), .val (.int q3), .val (.ref x102), .val (.ref wa), .val (.int (nar .boolean (own_z 0))), .val (.int (nar .boolean (own_z Lv))), .val (.int (nar .boolean (nar .boolean 0)))] [(.int nj), (.int (nar .boolean (own_z Lv)))]))
          refine FinH.by (fun tt_ kk_ => XS.ifYes X155.here hx rfl (pc0 := 166) (pc' := 173) rfl (hb hby at_166) rfl ((if0 _ _).trans (feq (hn0 : ¬ nj = (0 : Int32))).2) (by decide) (by decide) kk_) ?_
          refine FinH.by (fun tt_ kk_ => XS.iconst X155.here hx rfl (hb hby at_173) kk_) ?_
          show FinH _ _ _ _ _ _ _ _ _ (T155.setTop (mkF m 174 #[.val (.int p1), .val (.int p2), .val (.int p3), .val (.int p4), .val (.int p5), .val (.int kj), .val (.int nj), .val (.int mm), .val (.int q0), .val (.int q1), .val (.int q2), .val (.int q3), .val (.ref x102), .val (.ref wa), .val (.int (nar .boolean (own_z 0))), .val (.int (nar .boolean (own_z Lv))), .val (.int (nar .boolean (nar .boolean 0)))] [(.int 0), (.int (nar .boolean (own_z Lv)))]))
          refine FinH.by (fun tt_ kk_ => XS.icmpNo X155.here hx rfl (hb hby at_174) rfl (teq (by unfold own_z; rw [if_neg hl0]; decide : (nar .boolean (own_z Lv)) = (0 : Int32))).2 kk_) ?_
          refine FinH.by (fun tt_ kk_ => XS.iload X155.here hx rfl (hb hby at_177) rfl (XS.iload X155.here hx rfl (hb hby at_179) rfl (XS.iload X155.here hx rfl (hb hby at_181) rfl kk_))) ?_
          show FinH _ _ _ _ _ _ _ _ _ (T155.setTop (mkF m 183 #[.val (.int p1), .val (.int p2), .val (.int p3), .val (.int p4), .val (.int p5), .val (.int kj), .val (.int nj), .val (.int mm), .val (.int q0), .val (.int q1), .val (.int q2), .val (.int q3), .val (.ref x102), .val (.ref wa), .val (.int (nar .boolean (own_z 0))), .val (.int (nar .boolean (own_z Lv))), .val (.int (nar .boolean (nar .boolean 0)))] [(.int mm), (.int nj), (.int (nar .boolean (nar .boolean 0)))]))
          refine FinH.by (fun tt_ kk_ => XS.icmpYes X155.here hx rfl (pc0 := 183) (pc' := 190) rfl (hb hby at_183) rfl (feq (hnm : ¬ nj = mm)).2 (by decide) (by decide) kk_) ?_
          refine FinH.by (fun tt_ kk_ => XS.iconst X155.here hx rfl (hb hby at_190) kk_) ?_
          show FinH _ _ _ _ _ _ _ _ _ (T155.setTop (mkF m 191 #[.val (.int p1), .val (.int p2), .val (.int p3), .val (.int p4), .val (.int p5), .val (.int kj), .val (.int nj), .val (.int mm), .val (.int q0), .val (.int q1), .val (.int q2), .val (.int q3), .val (.ref x102), .val (.ref wa), .val (.int (nar .boolean (own_z 0))), .val (.int (nar .boolean (own_z Lv))), .val (.int (nar .boolean (nar .boolean 0)))] [(.int 0), (.int (nar .boolean (nar .boolean 0)))]))
          refine FinH.by (fun tt_ kk_ => XS.icmpNo X155.here hx rfl (hb hby at_191) rfl (teq (by decide : (nar .boolean (nar .boolean (0 : Int32))) = (0 : Int32))).2 kk_) ?_
          refine FinH.by (fun tt_ kk_ => XS.iconst X155.here hx rfl (hb hby at_194) (XS.goto X155.here hx rfl (pc0 := 195) (pc' := 199) rfl (hb hby at_195) (by decide) (by decide) kk_)) ?_
          show FinH _ _ _ _ _ _ _ _ _ (T155.setTop (mkF m 199 #[.val (.int p1), .val (.int p2), .val (.int p3), .val (.int p4), .val (.int p5), .val (.int kj), .val (.int nj), .val (.int mm), .val (.int q0), .val (.int q1), .val (.int q2), .val (.int q3), .val (.ref x102), .val (.ref wa), .val (.int (nar .boolean (own_z 0))), .val (.int (nar .boolean (own_z Lv))), .val (.int (nar .boolean (nar .boolean 0)))] [(.int 1)]))
          exact FinH.ret (v := some (.int (nar .boolean (1 : Int32)))) X155 hS118 (by rw [e155]; exact hk119) (fun h => by rw [Bd.returns] at h; cases h) Bd.notSynchronized (by rw [e155]; exact ⟨rfl, N155_⟩) (by rw [hh, e155]; exact ch123.trans (CHv.at X155 hZ120 own_EW ch123.1)) (by decide) (by decide) (fun fs hr => retN X155 hx (t := .boolean) Bd.returns (by simp) (hb hby at_199) hr)
    rcases hk with rfl | rfl | rfl | rfl
    · obtain ⟨T156, h156, X156, e156, E156, A156, D156, -, st156⟩ := newO X101w hx hZ101 hown101 (w_ hw 28 rfl) (w_ hw 29 rfl) (w_ hw 30 rfl) rfl (g := (mkF m 72 #[.val (.int p1), .val (.int p2), .val (.int p3), .val (.int p4), .val (.int p5), .val (.int 0), .val (.int n), .val (.int mm), .val (.int q0), .val (.int q1), .val (.int q2), .val (.int q3), .val (.ref x102), .unset, .unset, .unset, .unset] [])) rfl (hb hby at_72) (by decide) (by decide)
      obtain ⟨a156, g156⟩ : ∃ z, z = T101.heap.size := ⟨_, rfl⟩
      rw [← g156] at A156 D156 st156
      refine FinH.by (fun tt_ kk_ => st156 tt_ kk_) ?_
      have ch157 : CHr Z consts_1 s.vm h0 T101.vm h156 := ch108.trans (CHr.ext E156 ch108.1)
      refine FinH.by (fun tt_ kk_ => XS.dup X156.here hx rfl (hb hby at_75) rfl rfl (XS.iload X156.here hx rfl (hb hby at_76) rfl kk_)) ?_
      have z159 : n0 ≤ T101.heap.size := Nat.le_trans Z0 p101_0.1
      have g158 : n0 ≤ a156 := Nat.le_trans z159 (Nat.le_of_eq g156.symm)
      have z160 : n0 ≤ h156.size := Nat.le_trans Z0 (Nat.le_trans p101_0.1 E156.1)
      obtain ⟨v161, _, ⟨T161, L161, k161, n161⟩, -, X161, ⟨Lc161, hQ161, l161, y161, z161⟩, st161⟩ := X156.specialBack hx (y := y_24) rfl hown101 (mvT hZ101 (w_ hw 31 rfl)) (mvT hZ101 (w_ hw 32 rfl)) (mvT hZ101 (w_ hw 33 rfl)) (by decide) (backOf (W := 1) (rm_wbi0 l Z a0 hw [] a156 h156 n0 z160 A156 (D156 (Or.inr (w_ hw 36 rfl)) (ty := (.array .char)) (by decide) : Fld Z h156 a156 "com/example/colonnade/colonnade/WordBuffer" "chars" "[C" .null) (D156 (Or.inl (w_ hw 43 rfl)) (ty := .int) (by decide) : Fld Z h156 a156 "com/example/colonnade/colonnade/WordBuffer" "length" "I" (.int (0 : Int32))) g158) hZ101 (w_ hw 33 rfl) (w_ hw 30 rfl) (by decide) (by decide)) (g := (mkF m 78 #[.val (.int p1), .val (.int p2), .val (.int p3), .val (.int p4), .val (.int p5), .val (.int 0), .val (.int n), .val (.int mm), .val (.int q0), .val (.int q1), .val (.int q2), .val (.int q3), .val (.ref x102), .unset, .unset, .unset, .unset] [(.int 0), (.ref a156), (.ref a156)])) rfl (by rw [hml]; rfl) (Steps.refl _) (a := a156) (argsL := [(.int 0)]) (rest := [(.ref a156)]) (lenOf pd_414 rfl) rfl (by show 2 * 0 + _ ≤ _; exact Nat.le_of_eq rfl) (hb hby at_78) (fun _ _ => ⟨rfl, e156, (by decide : 7 + 1 ≤ _), (by decide : 18 + 0 ≤ _)⟩)
      dsimp only [Pt.U, Pt.locs, Pt.cells, Pt.slots] at X161 l161 y161 z161 st161 hQ161
      subst l161 y161 z161
      obtain ⟨t162, k163, rfl, Nq161, p161_0, p161_1, p161_2, p161_3, p161_4, p161_5⟩ := hQ161
      have N161_ := Fr.app N101_ Nq161
      refine FinH.byS st161 ?_
      have ch164 : CHr Z consts_1 s.vm h0 T101.vm T161.heap := ch157.trans (CHr.keep p161_0 (allS (Safe.exa hZ101.alike A156 (by decide) (by decide)) all0) ch157.1)
      refine FinH.by (fun tt_ kk_ => XS.astore X161.here hx rfl (hb hby at_81) rfl rfl (l' := #[.val (.int p1), .val (.int p2), .val (.int p3), .val (.int p4), .val (.int p5), .val (.int 0), .val (.int n), .val (.int mm), .val (.int q0), .val (.int q1), .val (.int q2), .val (.int q3), .val (.ref x102), .val (.ref a156), .unset, .unset, .unset]) rfl (XS.aload X161.here hx rfl (hb hby at_83) rfl rfl kk_)) ?_
      have z165 : n0 ≤ T161.heap.size := Nat.le_trans z160 p161_0.1
      obtain ⟨cq166, kq166, qa166, qb166, qc166⟩ := isOf hZ101 rfl p161_2
      obtain ⟨v166, _, ⟨T166, L166, k166, n166⟩, -, X166, ⟨Lc166, hQ166, l166, y166, z166⟩, st166⟩ := X161.virtualBack hx (y := y_20) (z := y_20) hown101 (mvT hZ101 (w_ hw 37 rfl)) (mvT hZ101 (w_ hw 38 rfl)) (notFace_of_selects (args := #[]) (mvT hZ101 (w_ hw 40 rfl))) (mvT hZ101 (w_ hw 40 rfl)) (mvT hZ101 (w_ hw 39 rfl)) (by decide) (backOf (W := 0) (rm_emp l Z a0 hw [] a156 (0 : Int32) T161.heap n0 z165 p161_4) hZ101 (w_ hw 41 rfl) (w_ hw 30 rfl) (by decide) (by decide)) qa166 qc166 (g := (mkF m 85 #[.val (.int p1), .val (.int p2), .val (.int p3), .val (.int p4), .val (.int p5), .val (.int 0), .val (.int n), .val (.int mm), .val (.int q0), .val (.int q1), .val (.int q2), .val (.int q3), .val (.ref x102), .val (.ref a156), .unset, .unset, .unset] [(.ref a156)])) rfl (by rw [hml]; rfl) (Steps.refl _) (argsL := []) (rest := []) (lenOf pd_84 rfl) rfl (by show 2 * 0 + _ ≤ _; exact Nat.le_of_eq rfl) (hb hby at_85) (fun _ _ => ⟨rfl, rfl, (by decide : 8 + 0 ≤ _), (by decide : 18 + 0 ≤ _)⟩)
      dsimp only [Pt.U, Pt.locs, Pt.cells, Pt.slots] at X166 l166 y166 z166 st166 hQ166
      subst l166 y166 z166
      obtain ⟨rfl, Nq166, e166_⟩ := hQ166
      have N166_ := Fr.app N161_ Nq166
      refine FinH.byS st166 ?_
      have e166 := e166_
      refine FinH.by (fun tt_ kk_ => XS.istore X166.here hx rfl (hb hby at_88) rfl (l' := #[.val (.int p1), .val (.int p2), .val (.int p3), .val (.int p4), .val (.int p5), .val (.int 0), .val (.int n), .val (.int mm), .val (.int q0), .val (.int q1), .val (.int q2), .val (.int q3), .val (.ref x102), .val (.ref a156), .val (.int (nar .boolean (own_z 0))), .unset, .unset]) rfl (XS.iload X166.here hx rfl (hb hby at_90) rfl kk_)) ?_
      show FinH _ _ _ _ _ _ _ _ _ (T166.setTop (mkF m 92 #[.val (.int p1), .val (.int p2), .val (.int p3), .val (.int p4), .val (.int p5), .val (.int 0), .val (.int n), .val (.int mm), .val (.int q0), .val (.int q1), .val (.int q2), .val (.int q3), .val (.ref x102), .val (.ref a156), .val (.int (nar .boolean (own_z 0))), .unset, .unset] [(.int n)]))
      by_cases hn0 : (0 : Int32) < n
      · refine FinH.by (fun tt_ kk_ => XS.ifNo X166.here hx rfl (hb hby at_92) rfl ((if0 _ _).trans (tlt hn0).2.2.2) kk_) ?_
        refine FinH.by (fun tt_ kk_ => XS.aload X166.here hx rfl (hb hby at_95) rfl rfl (XS.iload X166.here hx rfl (hb hby at_97) rfl kk_)) ?_
        have z171 : n0 ≤ h156.size := Nat.le_trans Z0 (Nat.le_trans p101_0.1 E156.1)
        have g170 : n0 ≤ t162 := Nat.le_trans z171 p161_1
        have ne172 : a156 ≠ t162 := Nat.ne_of_lt (Nat.lt_of_lt_of_le A156.lt p161_1)
        obtain ⟨cq173, kq173, qa173, qb173, qc173⟩ := isOf hZ101 e166 p161_2
        obtain ⟨v173, _, ⟨T173, L173, k173, n173⟩, -, X173, ⟨Lc173, hQ173, l173, y173, z173⟩, st173⟩ := X166.virtualBack hx (y := y_25) (z := y_25) hown101 (mvT hZ101 (w_ hw 44 rfl)) (mvT hZ101 (w_ hw 45 rfl)) (notFace_of_selects (args := #[]) (mvT hZ101 (w_ hw 47 rfl))) (mvT hZ101 (w_ hw 47 rfl)) (mvT hZ101 (w_ hw 46 rfl)) (by decide) (backOf (W := 0) (rm_add0_0 l Z a0 hw [] a156 t162 k163 q0 T161.heap n0 z165 p161_2 p161_3 p161_4 p161_5 g158 g170 ne172) hZ101 (w_ hw 48 rfl) (w_ hw 30 rfl) (by decide) (by decide)) qa173 qc173 (g := (mkF m 99 #[.val (.int p1), .val (.int p2), .val (.int p3), .val (.int p4), .val (.int p5), .val (.int 0), .val (.int n), .val (.int mm), .val (.int q0), .val (.int q1), .val (.int q2), .val (.int q3), .val (.ref x102), .val (.ref a156), .val (.int (nar .boolean (own_z 0))), .unset, .unset] [(.int q0), (.ref a156)])) rfl (by rw [hml]; rfl) (Steps.refl _) (argsL := [(.int q0)]) (rest := []) (lenOf pd_415 rfl) rfl (by show 2 * 0 + _ ≤ _; exact Nat.le_of_eq rfl) (hb hby at_99) (fun _ _ => ⟨rfl, e166, (by decide : 8 + 0 ≤ _), (by decide : 18 + 0 ≤ _)⟩)
        dsimp only [Pt.U, Pt.locs, Pt.cells, Pt.slots] at X173 l173 y173 z173 st173 hQ173
        subst l173 y173 z173
        obtain ⟨rfl, Nq173, p173_0, p173_1, p173_2, p173_3, p173_4⟩ := hQ173
        have N173_ := Fr.app N166_ Nq173
        refine FinH.byS st173 ?_
        have sf175 : Safe Z consts_1 T101.vm h156 a156 := (Safe.ext E156 ch108.1 (Safe.new (Nat.le_of_eq g156.symm)))
        have sf176 : Safe Z consts_1 T101.vm T161.heap t162 := (Safe.keep p161_0 (allS sf175 all0) ch157.1 (Safe.new p161_1))
        have ch174 : CHr Z consts_1 s.vm h0 T101.vm T173.heap := ch164.trans (CHr.keep p173_0 (allS (Safe.exa hZ101.alike p161_2 (by decide) (by decide)) (allS sf176 all0)) ch164.1)
        refine FinH.by (fun tt_ kk_ => XS.iload X173.here hx rfl (hb hby at_102) rfl (XS.iconst X173.here hx rfl (hb hby at_104) kk_)) ?_
        show FinH _ _ _ _ _ _ _ _ _ (T173.setTop (mkF m 105 #[.val (.int p1), .val (.int p2), .val (.int p3), .val (.int p4), .val (.int p5), .val (.int 0), .val (.int n), .val (.int mm), .val (.int q0), .val (.int q1), .val (.int q2), .val (.int q3), .val (.ref x102), .val (.ref a156), .val (.int (nar .boolean (own_z 0))), .unset, .unset] [(.int 1), (.int n)]))
        by_cases hn1 : (1 : Int32) < n
        · refine FinH.by (fun tt_ kk_ => XS.icmpNo X173.here hx rfl (hb hby at_105) rfl (tlt hn1).2.2.2 kk_) ?_
          refine FinH.by (fun tt_ kk_ => XS.aload X173.here hx rfl (hb hby at_108) rfl rfl (XS.iload X173.here hx rfl (hb hby at_110) rfl kk_)) ?_
          have z181 : n0 ≤ T173.heap.size := Nat.le_trans z165 p173_0.1
          obtain ⟨cq182, kq182, qa182, qb182, qc182⟩ := isOf hZ101 rfl p173_1
          obtain ⟨v182, _, ⟨T182, L182, k182, n182⟩, -, X182, ⟨Lc182, hQ182, l182, y182, z182⟩, st182⟩ := X173.virtualBack hx (y := y_25) (z := y_25) hown101 (mvT hZ101 (w_ hw 44 rfl)) (mvT hZ101 (w_ hw 45 rfl)) (notFace_of_selects (args := #[]) (mvT hZ101 (w_ hw 47 rfl))) (mvT hZ101 (w_ hw 47 rfl)) (mvT hZ101 (w_ hw 46 rfl)) (by decide) (backOf (W := 0) (rm_add0_1 l Z a0 hw [] a156 t162 k163 q1 T173.heap n0 z181 p173_1 p173_2 p173_3 p173_4 g158 g170 ne172) hZ101 (w_ hw 48 rfl) (w_ hw 30 rfl) (by decide) (by decide)) qa182 qc182 (g := (mkF m 112 #[.val (.int p1), .val (.int p2), .val (.int p3), .val (.int p4), .val (.int p5), .val (.int 0), .val (.int n), .val (.int mm), .val (.int q0), .val (.int q1), .val (.int q2), .val (.int q3), .val (.ref x102), .val (.ref a156), .val (.int (nar .boolean (own_z 0))), .unset, .unset] [(.int q1), (.ref a156)])) rfl (by rw [hml]; rfl) (Steps.refl _) (argsL := [(.int q1)]) (rest := []) (lenOf pd_415 rfl) rfl (by show 2 * 0 + _ ≤ _; exact Nat.le_of_eq rfl) (hb hby at_112) (fun _ _ => ⟨rfl, rfl, (by decide : 8 + 0 ≤ _), (by decide : 18 + 0 ≤ _)⟩)
          dsimp only [Pt.U, Pt.locs, Pt.cells, Pt.slots] at X182 l182 y182 z182 st182 hQ182
          subst l182 y182 z182
          obtain ⟨rfl, Nq182, p182_0, p182_1, p182_2, p182_3, p182_4⟩ := hQ182
          have N182_ := Fr.app N173_ Nq182
          refine FinH.byS st182 ?_
          have sf184 : Safe Z consts_1 T101.vm T161.heap a156 := (Safe.keep p161_0 (allS sf175 all0) ch157.1 sf175)
          have sf185 : Safe Z consts_1 T101.vm T173.heap t162 := (Safe.keep p173_0 (allS sf184 (allS sf176 all0)) ch164.1 sf176)
          have ch183 : CHr Z consts_1 s.vm h0 T101.vm T182.heap := ch174.trans (CHr.keep p182_0 (allS (Safe.exa hZ101.alike p173_1 (by decide) (by decide)) (allS sf185 all0)) ch174.1)
          refine FinH.by (fun tt_ kk_ => XS.iload X182.here hx rfl (hb hby at_115) rfl (XS.iconst X182.here hx rfl (hb hby at_117) kk_)) ?_
          show FinH _ _ _ _ _ _ _ _ _ (T182.setTop (mkF m 118 #[.val (.int p1), .val (.int p2), .val (.int p3), .val (.int p4), .val (.int p5), .val (.int 0), .val (.int n), .val (.int mm), .val (.int q0), .val (.int q1), .val (.int q2), .val (.int q3), .val (.ref x102), .val (.ref a156), .val (.int (nar .boolean (own_z 0))), .unset, .unset] [(.int 2), (.int n)]))
          by_cases hn2 : (2 : Int32) < n
          · refine FinH.by (fun tt_ kk_ => XS.icmpNo X182.here hx rfl (hb hby at_118) rfl (tlt hn2).2.2.2 kk_) ?_
            refine FinH.by (fun tt_ kk_ => XS.aload X182.here hx rfl (hb hby at_121) rfl rfl (XS.iload X182.here hx rfl (hb hby at_123) rfl kk_)) ?_
            have z191 : n0 ≤ T182.heap.size := Nat.le_trans z181 p182_0.1
            obtain ⟨cq192, kq192, qa192, qb192, qc192⟩ := isOf hZ101 rfl p182_1
            obtain ⟨v192, _, ⟨T192, L192, k192, n192⟩, -, X192, ⟨Lc192, hQ192, l192, y192, z192⟩, st192⟩ := X182.virtualBack hx (y := y_25) (z := y_25) hown101 (mvT hZ101 (w_ hw 44 rfl)) (mvT hZ101 (w_ hw 45 rfl)) (notFace_of_selects (args := #[]) (mvT hZ101 (w_ hw 47 rfl))) (mvT hZ101 (w_ hw 47 rfl)) (mvT hZ101 (w_ hw 46 rfl)) (by decide) (backOf (W := 0) (rm_add0_1 l Z a0 hw [] a156 t162 k163 q2 T182.heap n0 z191 p182_1 p182_2 p182_3 p182_4 g158 g170 ne172) hZ101 (w_ hw 48 rfl) (w_ hw 30 rfl) (by decide) (by decide)) qa192 qc192 (g := (mkF m 125 #[.val (.int p1), .val (.int p2), .val (.int p3), .val (.int p4), .val (.int p5), .val (.int 0), .val (.int n), .val (.int mm), .val (.int q0), .val (.int q1), .val (.int q2), .val (.int q3), .val (.ref x102), .val (.ref a156), .val (.int (nar .boolean (own_z 0))), .unset, .unset] [(.int q2), (.ref a156)])) rfl (by rw [hml]; rfl) (Steps.refl _) (argsL := [(.int q2)]) (rest := []) (lenOf pd_415 rfl) rfl (by show 2 * 0 + _ ≤ _; exact Nat.le_of_eq rfl) (hb hby at_125) (fun _ _ => ⟨rfl, rfl, (by decide : 8 + 0 ≤ _), (by decide : 18 + 0 ≤ _)⟩)
            dsimp only [Pt.U, Pt.locs, Pt.cells, Pt.slots] at X192 l192 y192 z192 st192 hQ192
            subst l192 y192 z192
            obtain ⟨rfl, Nq192, p192_0, p192_1, p192_2, p192_3, p192_4⟩ := hQ192
            have N192_ := Fr.app N182_ Nq192
            refine FinH.byS st192 ?_
            have sf194 : Safe Z consts_1 T101.vm T173.heap a156 := (Safe.keep p173_0 (allS sf184 (allS sf176 all0)) ch164.1 sf184)
            have sf195 : Safe Z consts_1 T101.vm T182.heap t162 := (Safe.keep p182_0 (allS sf194 (allS sf185 all0)) ch174.1 sf185)
            have ch193 : CHr Z consts_1 s.vm h0 T101.vm T192.heap := ch183.trans (CHr.keep p192_0 (allS (Safe.exa hZ101.alike p182_1 (by decide) (by decide)) (allS sf195 all0)) ch183.1)
            refine FinH.by (fun tt_ kk_ => XS.iload X192.here hx rfl (hb hby at_128) rfl (XS.iconst X192.here hx rfl (hb hby at_130) kk_)) ?_
            show FinH _ _ _ _ _ _ _ _ _ (T192.setTop (mkF m 131 #[.val (.int p1), .val (.int p2), .val (.int p3), .val (.int p4), .val (.int p5), .val (.int 0), .val (.int n), .val (.int mm), .val (.int q0), .val (.int q1), .val (.int q2), .val (.int q3), .val (.ref x102), .val (.ref a156), .val (.int (nar .boolean (own_z 0))), .unset, .unset] [(.int 3), (.int n)]))
            by_cases hn3 : (3 : Int32) < n
            · refine FinH.by (fun tt_ kk_ => XS.icmpNo X192.here hx rfl (hb hby at_131) rfl (tlt hn3).2.2.2 kk_) ?_
              refine FinH.by (fun tt_ kk_ => XS.aload X192.here hx rfl (hb hby at_134) rfl rfl (XS.iload X192.here hx rfl (hb hby at_136) rfl kk_)) ?_
              have z202 : n0 ≤ T192.heap.size := Nat.le_trans z191 p192_0.1
              obtain ⟨cq203, kq203, qa203, qb203, qc203⟩ := isOf hZ101 rfl p192_1
              obtain ⟨v203, _, ⟨T203, L203, k203, n203⟩, -, X203, ⟨Lc203, hQ203, l203, y203, z203⟩, st203⟩ := X192.virtualBack hx (y := y_25) (z := y_25) hown101 (mvT hZ101 (w_ hw 44 rfl)) (mvT hZ101 (w_ hw 45 rfl)) (notFace_of_selects (args := #[]) (mvT hZ101 (w_ hw 47 rfl))) (mvT hZ101 (w_ hw 47 rfl)) (mvT hZ101 (w_ hw 46 rfl)) (by decide) (backOf (W := 0) (rm_add0_1 l Z a0 hw [] a156 t162 k163 q3 T192.heap n0 z202 p192_1 p192_2 p192_3 p192_4 g158 g170 ne172) hZ101 (w_ hw 48 rfl) (w_ hw 30 rfl) (by decide) (by decide)) qa203 qc203 (g := (mkF m 138 #[.val (.int p1), .val (.int p2), .val (.int p3), .val (.int p4), .val (.int p5), .val (.int 0), .val (.int n), .val (.int mm), .val (.int q0), .val (.int q1), .val (.int q2), .val (.int q3), .val (.ref x102), .val (.ref a156), .val (.int (nar .boolean (own_z 0))), .unset, .unset] [(.int q3), (.ref a156)])) rfl (by rw [hml]; rfl) (Steps.refl _) (argsL := [(.int q3)]) (rest := []) (lenOf pd_415 rfl) rfl (by show 2 * 0 + _ ≤ _; exact Nat.le_of_eq rfl) (hb hby at_138) (fun _ _ => ⟨rfl, rfl, (by decide : 8 + 0 ≤ _), (by decide : 18 + 0 ≤ _)⟩)
              dsimp only [Pt.U, Pt.locs, Pt.cells, Pt.slots] at X203 l203 y203 z203 st203 hQ203
              subst l203 y203 z203
              obtain ⟨rfl, Nq203, p203_0, p203_1, p203_2, p203_3, p203_4⟩ := hQ203
              have N203_ := Fr.app N192_ Nq203
              refine FinH.byS st203 ?_
              have sf205 : Safe Z consts_1 T101.vm T182.heap a156 := (Safe.keep p182_0 (allS sf194 (allS sf185 all0)) ch174.1 sf194)
              have sf206 : Safe Z consts_1 T101.vm T192.heap t162 := (Safe.keep p192_0 (allS sf205 (allS sf195 all0)) ch183.1 sf195)
              have ch204 : CHr Z consts_1 s.vm h0 T101.vm T203.heap := ch193.trans (CHr.keep p203_0 (allS (Safe.exa hZ101.alike p192_1 (by decide) (by decide)) (allS sf206 all0)) ch193.1)
              obtain rfl : n = (4 : Int32) := by rcases hn with rfl | rfl | rfl | rfl | rfl <;> first | rfl | (exact absurd hn3 (by decide))
              show FinH _ _ _ _ _ _ _ _ _ (T203.setTop (mkF m 141 #[.val (.int p1), .val (.int p2), .val (.int p3), .val (.int p4), .val (.int p5), .val (.int 0), .val (.int 4), .val (.int mm), .val (.int q0), .val (.int q1), .val (.int q2), .val (.int q3), .val (.ref x102), .val (.ref a156), .val (.int (nar .boolean (own_z 0))), .unset, .unset] []))
              have kp207 : Keep T101.heap h156 [] := (Keep.refl T101.heap []).ext E156
              have kp208 : Keep T101.heap T161.heap [] := kp207.trans p161_0 (allS (Or.inr (Nat.le_trans (Nat.le_refl _) (Nat.le_of_eq g156.symm))) all0)
              have kp209 : Keep T101.heap T173.heap [] := kp208.trans p173_0 (allS (Or.inr (Nat.le_trans (Nat.le_refl _) (Nat.le_of_eq g156.symm))) (allS (Or.inr (Nat.le_trans E156.1 p161_1)) all0))
              have kp210 : Keep T101.heap T182.heap [] := kp209.trans p182_0 (allS (Or.inr (Nat.le_trans (Nat.le_refl _) (Nat.le_of_eq g156.symm))) (allS (Or.inr (Nat.le_trans E156.1 p161_1)) all0))
              have kp211 : Keep T101.heap T192.heap [] := kp210.trans p192_0 (allS (Or.inr (Nat.le_trans (Nat.le_refl _) (Nat.le_of_eq g156.symm))) (allS (Or.inr (Nat.le_trans E156.1 p161_1)) all0))
              have kp212 : Keep T101.heap T203.heap [] := kp211.trans p203_0 (allS (Or.inr (Nat.le_trans (Nat.le_refl _) (Nat.le_of_eq g156.symm))) (allS (Or.inr (Nat.le_trans E156.1 p161_1)) all0))
              have sf213 : Safe Z consts_1 T101.vm T192.heap a156 := (Safe.keep p192_0 (allS sf205 (allS sf195 all0)) ch183.1 sf205)
              exact J141 T203 T203.heap _ T101.vm _ a156 t162 k163 (0 : Int32) (4 : Int32) (1 : Int32) [] (X203.more (by decide) (by decide)) rfl N203_ kp212 hS101w (Nat.le_trans (Nat.le_refl _) (Nat.le_trans (Nat.le_trans (Nat.le_trans (Nat.le_trans (Nat.le_trans E156.1 p161_0.1) p173_0.1) p182_0.1) p192_0.1) p203_0.1)) hZ101 hown101 ((((((CHr.ext E156 ch108.1).trans (CHr.keep p161_0 (allS sf175 all0) ch157.1)).trans (CHr.keep p173_0 (allS sf184 (allS sf176 all0)) ch164.1)).trans (CHr.keep p182_0 (allS sf194 (allS sf185 all0)) ch174.1)).trans (CHr.keep p192_0 (allS sf205 (allS sf195 all0)) ch183.1)).trans (CHr.keep p203_0 (allS sf213 (allS sf206 all0)) ch193.1)) p203_1 p203_3 p203_2 p203_4 (Or.inr ⟨by decide, by decide⟩) (Or.inr ⟨fun q => hm.2 (by rw [← q]; decide), fun q => hm.2 (by rw [← q]; decide)⟩)
            · refine FinH.by (fun tt_ kk_ => XS.icmpYes X192.here hx rfl (pc0 := 131) (pc' := 141) rfl (hb hby at_131) rfl (flt hn3).2.2.2 (by decide) (by decide) kk_) ?_
              obtain rfl : n = (3 : Int32) := by rcases hn with rfl | rfl | rfl | rfl | rfl <;> first | rfl | (exact absurd hn3 (by decide)) | (exact absurd (by decide) hn3) | (exact absurd hn2 (by decide))
              show FinH _ _ _ _ _ _ _ _ _ (T192.setTop (mkF m 141 #[.val (.int p1), .val (.int p2), .val (.int p3), .val (.int p4), .val (.int p5), .val (.int 0), .val (.int 3), .val (.int mm), .val (.int q0), .val (.int q1), .val (.int q2), .val (.int q3), .val (.ref x102), .val (.ref a156), .val (.int (nar .boolean (own_z 0))), .unset, .unset] []))
              have kp196 : Keep T101.heap h156 [] := (Keep.refl T101.heap []).ext E156
              have kp197 : Keep T101.heap T161.heap [] := kp196.trans p161_0 (allS (Or.inr (Nat.le_trans (Nat.le_refl _) (Nat.le_of_eq g156.symm))) all0)
              have kp198 : Keep T101.heap T173.heap [] := kp197.trans p173_0 (allS (Or.inr (Nat.le_trans (Nat.le_refl _) (Nat.le_of_eq g156.symm))) (allS (Or.inr (Nat.le_trans E156.1 p161_1)) all0))
              have kp199 : Keep T101.heap T182.heap [] := kp198.trans p182_0 (allS (Or.inr (Nat.le_trans (Nat.le_refl _) (Nat.le_of_eq g156.symm))) (allS (Or.inr (Nat.le_trans E156.1 p161_1)) all0))
              have kp200 : Keep T101.heap T192.heap [] := kp199.trans p192_0 (allS (Or.inr (Nat.le_trans (Nat.le_refl _) (Nat.le_of_eq g156.symm))) (allS (Or.inr (Nat.le_trans E156.1 p161_1)) all0))
              have sf201 : Safe Z consts_1 T101.vm T182.heap a156 := (Safe.keep p182_0 (allS sf194 (allS sf185 all0)) ch174.1 sf194)
              exact J141 T192 T192.heap _ T101.vm _ a156 t162 k163 (0 : Int32) (3 : Int32) (1 : Int32) [] (X192.more (by decide) (by decide)) rfl N192_ kp200 hS101w (Nat.le_trans (Nat.le_refl _) (Nat.le_trans (Nat.le_trans (Nat.le_trans (Nat.le_trans E156.1 p161_0.1) p173_0.1) p182_0.1) p192_0.1)) hZ101 hown101 (((((CHr.ext E156 ch108.1).trans (CHr.keep p161_0 (allS sf175 all0) ch157.1)).trans (CHr.keep p173_0 (allS sf184 (allS sf176 all0)) ch164.1)).trans (CHr.keep p182_0 (allS sf194 (allS sf185 all0)) ch174.1)).trans (CHr.keep p192_0 (allS sf201 (allS sf195 all0)) ch183.1)) p192_1 p192_3 p192_2 p192_4 (Or.inr ⟨by decide, by decide⟩) (Or.inr ⟨fun q => hm.2 (by rw [← q]; decide), fun q => hm.2 (by rw [← q]; decide)⟩)
          · refine FinH.by (fun tt_ kk_ => XS.icmpYes X182.here hx rfl (pc0 := 118) (pc' := 128) rfl (hb hby at_118) rfl (flt hn2).2.2.2 (by decide) (by decide) kk_) ?_
            obtain rfl : n = (2 : Int32) := by rcases hn with rfl | rfl | rfl | rfl | rfl <;> first | rfl | (exact absurd hn2 (by decide)) | (exact absurd (by decide) hn2) | (exact absurd hn1 (by decide))
            refine FinH.by (fun tt_ kk_ => XS.iload X182.here hx rfl (hb hby at_128) rfl (XS.iconst X182.here hx rfl (hb hby at_130) kk_)) ?_
            show FinH _ _ _ _ _ _ _ _ _ (T182.setTop (mkF m 131 #[.val (.int p1), .val (.int p2), .val (.int p3), .val (.int p4), .val (.int p5), .val (.int 0), .val (.int 2), .val (.int mm), .val (.int q0), .val (.int q1), .val (.int q2), .val (.int q3), .val (.ref x102), .val (.ref a156), .val (.int (nar .boolean (own_z 0))), .unset, .unset] [(.int 3), (.int 2)]))
            refine FinH.by (fun tt_ kk_ => XS.icmpYes X182.here hx rfl (pc0 := 131) (pc' := 141) rfl (hb hby at_131) rfl (flt (by decide : ¬ (3 : Int32) < (2 : Int32))).2.2.2 (by decide) (by decide) kk_) ?_
            show FinH _ _ _ _ _ _ _ _ _ (T182.setTop (mkF m 141 #[.val (.int p1), .val (.int p2), .val (.int p3), .val (.int p4), .val (.int p5), .val (.int 0), .val (.int 2), .val (.int mm), .val (.int q0), .val (.int q1), .val (.int q2), .val (.int q3), .val (.ref x102), .val (.ref a156), .val (.int (nar .boolean (own_z 0))), .unset, .unset] []))
            have kp186 : Keep T101.heap h156 [] := (Keep.refl T101.heap []).ext E156
            have kp187 : Keep T101.heap T161.heap [] := kp186.trans p161_0 (allS (Or.inr (Nat.le_trans (Nat.le_refl _) (Nat.le_of_eq g156.symm))) all0)
            have kp188 : Keep T101.heap T173.heap [] := kp187.trans p173_0 (allS (Or.inr (Nat.le_trans (Nat.le_refl _) (Nat.le_of_eq g156.symm))) (allS (Or.inr (Nat.le_trans E156.1 p161_1)) all0))
            have kp189 : Keep T101.heap T182.heap [] := kp188.trans p182_0 (allS (Or.inr (Nat.le_trans (Nat.le_refl _) (Nat.le_of_eq g156.symm))) (allS (Or.inr (Nat.le_trans E156.1 p161_1)) all0))
            have sf190 : Safe Z consts_1 T101.vm T173.heap a156 := (Safe.keep p173_0 (allS sf184 (allS sf176 all0)) ch164.1 sf184)
            exact J141 T182 T182.heap _ T101.vm _ a156 t162 k163 (0 : Int32) (2 : Int32) (1 : Int32) [] (X182.more (by decide) (by decide)) rfl N182_ kp189 hS101w (Nat.le_trans (Nat.le_refl _) (Nat.le_trans (Nat.le_trans (Nat.le_trans E156.1 p161_0.1) p173_0.1) p182_0.1)) hZ101 hown101 ((((CHr.ext E156 ch108.1).trans (CHr.keep p161_0 (allS sf175 all0) ch157.1)).trans (CHr.keep p173_0 (allS sf184 (allS sf176 all0)) ch164.1)).trans (CHr.keep p182_0 (allS sf190 (allS sf185 all0)) ch174.1)) p182_1 p182_3 p182_2 p182_4 (Or.inr ⟨by decide, by decide⟩) (Or.inr ⟨fun q => hm.2 (by rw [← q]; decide), fun q => hm.2 (by rw [← q]; decide)⟩)
        · refine FinH.by (fun tt_ kk_ => XS.icmpYes X173.here hx rfl (pc0 := 105) (pc' := 115) rfl (hb hby at_105) rfl (flt hn1).2.2.2 (by decide) (by decide) kk_) ?_
          obtain rfl : n = (1 : Int32) := by rcases hn with rfl | rfl | rfl | rfl | rfl <;> first | rfl | (exact absurd hn1 (by decide)) | (exact absurd (by decide) hn1) | (exact absurd hn0 (by decide))
          refine FinH.by (fun tt_ kk_ => XS.iload X173.here hx rfl (hb hby at_115) rfl (XS.iconst X173.here hx rfl (hb hby at_117) kk_)) ?_
          show FinH _ _ _ _ _ _ _ _ _ (T173.setTop (mkF m 118 #[.val (.int p1), .val (.int p2), .val (.int p3), .val (.int p4), .val (.int p5), .val (.int 0), .val (.int 1), .val (.int mm), .val (.int q0), .val (.int q1), .val (.int q2), .val (.int q3), .val (.ref x102), .val (.ref a156), .val (.int (nar .boolean (own_z 0))), .unset, .unset] [(.int 2), (.int 1)]))
          refine FinH.by (fun tt_ kk_ => XS.icmpYes X173.here hx rfl (pc0 := 118) (pc' := 128) rfl (hb hby at_118) rfl (flt (by decide : ¬ (2 : Int32) < (1 : Int32))).2.2.2 (by decide) (by decide) kk_) ?_
          refine FinH.by (fun tt_ kk_ => XS.iload X173.here hx rfl (hb hby at_128) rfl (XS.iconst X173.here hx rfl (hb hby at_130) kk_)) ?_
          show FinH _ _ _ _ _ _ _ _ _ (T173.setTop (mkF m 131 #[.val (.int p1), .val (.int p2), .val (.int p3), .val (.int p4), .val (.int p5), .val (.int 0), .val (.int 1), .val (.int mm), .val (.int q0), .val (.int q1), .val (.int q2), .val (.int q3), .val (.ref x102), .val (.ref a156), .val (.int (nar .boolean (own_z 0))), .unset, .unset] [(.int 3), (.int 1)]))
          refine FinH.by (fun tt_ kk_ => XS.icmpYes X173.here hx rfl (pc0 := 131) (pc' := 141) rfl (hb hby at_131) rfl (flt (by decide : ¬ (3 : Int32) < (1 : Int32))).2.2.2 (by decide) (by decide) kk_) ?_
          show FinH _ _ _ _ _ _ _ _ _ (T173.setTop (mkF m 141 #[.val (.int p1), .val (.int p2), .val (.int p3), .val (.int p4), .val (.int p5), .val (.int 0), .val (.int 1), .val (.int mm), .val (.int q0), .val (.int q1), .val (.int q2), .val (.int q3), .val (.ref x102), .val (.ref a156), .val (.int (nar .boolean (own_z 0))), .unset, .unset] []))
          have kp177 : Keep T101.heap h156 [] := (Keep.refl T101.heap []).ext E156
          have kp178 : Keep T101.heap T161.heap [] := kp177.trans p161_0 (allS (Or.inr (Nat.le_trans (Nat.le_refl _) (Nat.le_of_eq g156.symm))) all0)
          have kp179 : Keep T101.heap T173.heap [] := kp178.trans p173_0 (allS (Or.inr (Nat.le_trans (Nat.le_refl _) (Nat.le_of_eq g156.symm))) (allS (Or.inr (Nat.le_trans E156.1 p161_1)) all0))
          have sf180 : Safe Z consts_1 T101.vm T161.heap a156 := (Safe.keep p161_0 (allS sf175 all0) ch157.1 sf175)
          exact J141 T173 T173.heap _ T101.vm _ a156 t162 k163 (0 : Int32) (1 : Int32) (1 : Int32) [] (X173.more (by decide) (by decide)) rfl N173_ kp179 hS101w (Nat.le_trans (Nat.le_refl _) (Nat.le_trans (Nat.le_trans E156.1 p161_0.1) p173_0.1)) hZ101 hown101 (((CHr.ext E156 ch108.1).trans (CHr.keep p161_0 (allS sf175 all0) ch157.1)).trans (CHr.keep p173_0 (allS sf180 (allS sf176 all0)) ch164.1)) p173_1 p173_3 p173_2 p173_4 (Or.inr ⟨by decide, by decide⟩) (Or.inr ⟨fun q => hm.2 (by rw [← q]; decide), fun q => hm.2 (by rw [← q]; decide)⟩)
      · refine FinH.by (fun tt_ kk_ => XS.ifYes X166.here hx rfl (pc0 := 92) (pc' := 102) rfl (hb hby at_92) rfl ((if0 _ _).trans (flt hn0).2.2.2) (by decide) (by decide) kk_) ?_
        obtain rfl : n = (0 : Int32) := by rcases hn with rfl | rfl | rfl | rfl | rfl <;> first | rfl | (exact absurd hn0 (by decide)) | (exact absurd (by decide) hn0)
        refine FinH.by (fun tt_ kk_ => XS.iload X166.here hx rfl (hb hby at_102) rfl (XS.iconst X166.here hx rfl (hb hby at_104) kk_)) ?_
        show FinH _ _ _ _ _ _ _ _ _ (T166.setTop (mkF m 105 #[.val (.int p1), .val (.int p2), .val (.int p3), .val (.int p4), .val (.int p5), .val (.int 0), .val (.int 0), .val (.int mm), .val (.int q0), .val (.int q1), .val (.int q2), .val (.int q3), .val (.ref x102), .val (.ref a156), .val (.int (nar .boolean (own_z 0))), .unset, .unset] [(.int 1), (.int 0)]))
        refine FinH.by (fun tt_ kk_ => XS.icmpYes X166.here hx rfl (pc0 := 105) (pc' := 115) rfl (hb hby at_105) rfl (flt (by decide : ¬ (1 : Int32) < (0 : Int32))).2.2.2 (by decide) (by decide) kk_) ?_
        refine FinH.by (fun tt_ kk_ => XS.iload X166.here hx rfl (hb hby at_115) rfl (XS.iconst X166.here hx rfl (hb hby at_117) kk_)) ?_
        show FinH _ _ _ _ _ _ _ _ _ (T166.setTop (mkF m 118 #[.val (.int p1), .val (.int p2), .val (.int p3), .val (.int p4), .val (.int p5), .val (.int 0), .val (.int 0), .val (.int mm), .val (.int q0), .val (.int q1), .val (.int q2), .val (.int q3), .val (.ref x102), .val (.ref a156), .val (.int (nar .boolean (own_z 0))), .unset, .unset] [(.int 2), (.int 0)]))
        refine FinH.by (fun tt_ kk_ => XS.icmpYes X166.here hx rfl (pc0 := 118) (pc' := 128) rfl (hb hby at_118) rfl (flt (by decide : ¬ (2 : Int32) < (0 : Int32))).2.2.2 (by decide) (by decide) kk_) ?_
        refine FinH.by (fun tt_ kk_ => XS.iload X166.here hx rfl (hb hby at_128) rfl (XS.iconst X166.here hx rfl (hb hby at_130) kk_)) ?_
        show FinH _ _ _ _ _ _ _ _ _ (T166.setTop (mkF m 131 #[.val (.int p1), .val (.int p2), .val (.int p3), .val (.int p4), .val (.int p5), .val (.int 0), .val (.int 0), .val (.int mm), .val (.int q0), .val (.int q1), .val (.int q2), .val (.int q3), .val (.ref x102), .val (.ref a156), .val (.int (nar .boolean (own_z 0))), .unset, .unset] [(.int 3), (.int 0)]))
        refine FinH.by (fun tt_ kk_ => XS.icmpYes X166.here hx rfl (pc0 := 131) (pc' := 141) rfl (hb hby at_131) rfl (flt (by decide : ¬ (3 : Int32) < (0 : Int32))).2.2.2 (by decide) (by decide) kk_) ?_
        show FinH _ _ _ _ _ _ _ _ _ (T166.setTop (mkF m 141 #[.val (.int p1), .val (.int p2), .val (.int p3), .val (.int p4), .val (.int p5), .val (.int 0), .val (.int 0), .val (.int mm), .val (.int q0), .val (.int q1), .val (.int q2), .val (.int q3), .val (.ref x102), .val (.ref a156), .val (.int (nar .boolean (own_z 0))), .unset, .unset] []))
        have kp167 : Keep T101.heap h156 [] := (Keep.refl T101.heap []).ext E156
        have kp168 : Keep T101.heap T161.heap [] := kp167.trans p161_0 (allS (Or.inr (Nat.le_trans (Nat.le_refl _) (Nat.le_of_eq g156.symm))) all0)
        have sf169 : Safe Z consts_1 T101.vm h156 a156 := (Safe.ext E156 ch108.1 (Safe.new (Nat.le_of_eq g156.symm)))
        exact J141 T166 T161.heap _ T101.vm _ a156 t162 k163 (0 : Int32) (0 : Int32) (0 : Int32) [] (X166.more (by decide) (by decide)) e166 N166_ kp168 hS101w (Nat.le_trans (Nat.le_refl _) (Nat.le_trans E156.1 p161_0.1)) hZ101 hown101 ((CHr.ext E156 ch108.1).trans (CHr.keep p161_0 (allS sf169 all0) ch157.1)) p161_2 p161_4 p161_3 p161_5 (Or.inl ⟨rfl, rfl⟩) (if hmn : mm = (0 : Int32) then Or.inl ⟨hmn.symm, hmn.symm, by rw [hmn, own_pre0]; rfl, by rw [hmn, own_pre0]; exact Nat.le_of_ble_eq_true rfl⟩ else Or.inr ⟨fun q => hmn q.symm, fun q => hmn q.symm⟩)
    · obtain ⟨T214, h214, X214, e214, E214, A214, D214, -, st214⟩ := newO X101w hx hZ101 hown101 (w_ hw 28 rfl) (w_ hw 29 rfl) (w_ hw 30 rfl) rfl (g := (mkF m 72 #[.val (.int p1), .val (.int p2), .val (.int p3), .val (.int p4), .val (.int p5), .val (.int 1), .val (.int n), .val (.int mm), .val (.int q0), .val (.int q1), .val (.int q2), .val (.int q3), .val (.ref x102), .unset, .unset, .unset, .unset] [])) rfl (hb hby at_72) (by decide) (by decide)
      obtain ⟨a214, g214⟩ : ∃ z, z = T101.heap.size := ⟨_, rfl⟩
      rw [← g214] at A214 D214 st214
      refine FinH.by (fun tt_ kk_ => st214 tt_ kk_) ?_
      have ch215 : CHr Z consts_1 s.vm h0 T101.vm h214 := ch108.trans (CHr.ext E214 ch108.1)
      refine FinH.by (fun tt_ kk_ => XS.dup X214.here hx rfl (hb hby at_75) rfl rfl (XS.iload X214.here hx rfl (hb hby at_76) rfl kk_)) ?_
      have z217 : n0 ≤ T101.heap.size := Nat.le_trans Z0 p101_0.1
      have g216 : n0 ≤ a214 := Nat.le_trans z217 (Nat.le_of_eq g214.symm)
      have z218 : n0 ≤ h214.size := Nat.le_trans Z0 (Nat.le_trans p101_0.1 E214.1)
      obtain ⟨v219, _, ⟨T219, L219, k219, n219⟩, -, X219, ⟨Lc219, hQ219, l219, y219, z219⟩, st219⟩ := X214.specialBack hx (y := y_24) rfl hown101 (mvT hZ101 (w_ hw 31 rfl)) (mvT hZ101 (w_ hw 32 rfl)) (mvT hZ101 (w_ hw 33 rfl)) (by decide) (backOf (W := 1) (rm_wbi1 l Z a0 hw [] a214 h214 n0 z218 A214 (D214 (Or.inr (w_ hw 36 rfl)) (ty := (.array .char)) (by decide) : Fld Z h214 a214 "com/example/colonnade/colonnade/WordBuffer" "chars" "[C" .null) (D214 (Or.inl (w_ hw 43 rfl)) (ty := .int) (by decide) : Fld Z h214 a214 "com/example/colonnade/colonnade/WordBuffer" "length" "I" (.int (0 : Int32))) g216) hZ101 (w_ hw 33 rfl) (w_ hw 30 rfl) (by decide) (by decide)) (g := (mkF m 78 #[.val (.int p1), .val (.int p2), .val (.int p3), .val (.int p4), .val (.int p5), .val (.int 1), .val (.int n), .val (.int mm), .val (.int q0), .val (.int q1), .val (.int q2), .val (.int q3), .val (.ref x102), .unset, .unset, .unset, .unset] [(.int 1), (.ref a214), (.ref a214)])) rfl (by rw [hml]; rfl) (Steps.refl _) (a := a214) (argsL := [(.int 1)]) (rest := [(.ref a214)]) (lenOf pd_414 rfl) rfl (by show 2 * 0 + _ ≤ _; exact Nat.le_of_eq rfl) (hb hby at_78) (fun _ _ => ⟨rfl, e214, (by decide : 7 + 1 ≤ _), (by decide : 18 + 1 ≤ _)⟩)
      dsimp only [Pt.U, Pt.locs, Pt.cells, Pt.slots] at X219 l219 y219 z219 st219 hQ219
      subst l219 y219 z219
      obtain ⟨t220, k221, rfl, Nq219, p219_0, p219_1, p219_2, p219_3, p219_4, p219_5⟩ := hQ219
      have N219_ := Fr.app N101_ Nq219
      refine FinH.byS st219 ?_
      have ch222 : CHr Z consts_1 s.vm h0 T101.vm T219.heap := ch215.trans (CHr.keep p219_0 (allS (Safe.exa hZ101.alike A214 (by decide) (by decide)) all0) ch215.1)
      refine FinH.by (fun tt_ kk_ => XS.astore X219.here hx rfl (hb hby at_81) rfl rfl (l' := #[.val (.int p1), .val (.int p2), .val (.int p3), .val (.int p4), .val (.int p5), .val (.int 1), .val (.int n), .val (.int mm), .val (.int q0), .val (.int q1), .val (.int q2), .val (.int q3), .val (.ref x102), .val (.ref a214), .unset, .unset, .unset]) rfl (XS.aload X219.here hx rfl (hb hby at_83) rfl rfl kk_)) ?_
      have z223 : n0 ≤ T219.heap.size := Nat.le_trans z218 p219_0.1
      obtain ⟨cq224, kq224, qa224, qb224, qc224⟩ := isOf hZ101 rfl p219_2
      obtain ⟨v224, _, ⟨T224, L224, k224, n224⟩, -, X224, ⟨Lc224, hQ224, l224, y224, z224⟩, st224⟩ := X219.virtualBack hx (y := y_20) (z := y_20) hown101 (mvT hZ101 (w_ hw 37 rfl)) (mvT hZ101 (w_ hw 38 rfl)) (notFace_of_selects (args := #[]) (mvT hZ101 (w_ hw 40 rfl))) (mvT hZ101 (w_ hw 40 rfl)) (mvT hZ101 (w_ hw 39 rfl)) (by decide) (backOf (W := 0) (rm_emp l Z a0 hw [] a214 (0 : Int32) T219.heap n0 z223 p219_4) hZ101 (w_ hw 41 rfl) (w_ hw 30 rfl) (by decide) (by decide)) qa224 qc224 (g := (mkF m 85 #[.val (.int p1), .val (.int p2), .val (.int p3), .val (.int p4), .val (.int p5), .val (.int 1), .val (.int n), .val (.int mm), .val (.int q0), .val (.int q1), .val (.int q2), .val (.int q3), .val (.ref x102), .val (.ref a214), .unset, .unset, .unset] [(.ref a214)])) rfl (by rw [hml]; rfl) (Steps.refl _) (argsL := []) (rest := []) (lenOf pd_84 rfl) rfl (by show 2 * 0 + _ ≤ _; exact Nat.le_of_eq rfl) (hb hby at_85) (fun _ _ => ⟨rfl, rfl, (by decide : 8 + 0 ≤ _), (by decide : 19 + 0 ≤ _)⟩)
      dsimp only [Pt.U, Pt.locs, Pt.cells, Pt.slots] at X224 l224 y224 z224 st224 hQ224
      subst l224 y224 z224
      obtain ⟨rfl, Nq224, e224_⟩ := hQ224
      have N224_ := Fr.app N219_ Nq224
      refine FinH.byS st224 ?_
      have e224 := e224_
      refine FinH.by (fun tt_ kk_ => XS.istore X224.here hx rfl (hb hby at_88) rfl (l' := #[.val (.int p1), .val (.int p2), .val (.int p3), .val (.int p4), .val (.int p5), .val (.int 1), .val (.int n), .val (.int mm), .val (.int q0), .val (.int q1), .val (.int q2), .val (.int q3), .val (.ref x102), .val (.ref a214), .val (.int (nar .boolean (own_z 0))), .unset, .unset]) rfl (XS.iload X224.here hx rfl (hb hby at_90) rfl kk_)) ?_
      show FinH _ _ _ _ _ _ _ _ _ (T224.setTop (mkF m 92 #[.val (.int p1), .val (.int p2), .val (.int p3), .val (.int p4), .val (.int p5), .val (.int 1), .val (.int n), .val (.int mm), .val (.int q0), .val (.int q1), .val (.int q2), .val (.int q3), .val (.ref x102), .val (.ref a214), .val (.int (nar .boolean (own_z 0))), .unset, .unset] [(.int n)]))
      by_cases hn0 : (0 : Int32) < n
      · refine FinH.by (fun tt_ kk_ => XS.ifNo X224.here hx rfl (hb hby at_92) rfl ((if0 _ _).trans (tlt hn0).2.2.2) kk_) ?_
        refine FinH.by (fun tt_ kk_ => XS.aload X224.here hx rfl (hb hby at_95) rfl rfl (XS.iload X224.here hx rfl (hb hby at_97) rfl kk_)) ?_
        have z229 : n0 ≤ h214.size := Nat.le_trans Z0 (Nat.le_trans p101_0.1 E214.1)
        have g228 : n0 ≤ t220 := Nat.le_trans z229 p219_1
        have ne230 : a214 ≠ t220 := Nat.ne_of_lt (Nat.lt_of_lt_of_le A214.lt p219_1)
        obtain ⟨cq231, kq231, qa231, qb231, qc231⟩ := isOf hZ101 e224 p219_2
        obtain ⟨v231, _, ⟨T231, L231, k231, n231⟩, -, X231, ⟨Lc231, hQ231, l231, y231, z231⟩, st231⟩ := X224.virtualBack hx (y := y_25) (z := y_25) hown101 (mvT hZ101 (w_ hw 44 rfl)) (mvT hZ101 (w_ hw 45 rfl)) (notFace_of_selects (args := #[]) (mvT hZ101 (w_ hw 47 rfl))) (mvT hZ101 (w_ hw 47 rfl)) (mvT hZ101 (w_ hw 46 rfl)) (by decide) (backOf (W := 0) (rm_add1_0 l Z a0 hw [] a214 t220 k221 q0 (0 : Int32) T219.heap n0 z223 p219_2 p219_3 p219_4 p219_5 g216 g228 ne230) hZ101 (w_ hw 48 rfl) (w_ hw 30 rfl) (by decide) (by decide)) qa231 qc231 (g := (mkF m 99 #[.val (.int p1), .val (.int p2), .val (.int p3), .val (.int p4), .val (.int p5), .val (.int 1), .val (.int n), .val (.int mm), .val (.int q0), .val (.int q1), .val (.int q2), .val (.int q3), .val (.ref x102), .val (.ref a214), .val (.int (nar .boolean (own_z 0))), .unset, .unset] [(.int q0), (.ref a214)])) rfl (by rw [hml]; rfl) (Steps.refl _) (argsL := [(.int q0)]) (rest := []) (lenOf pd_415 rfl) rfl (by show 2 * 0 + _ ≤ _; exact Nat.le_of_eq rfl) (hb hby at_99) (fun _ _ => ⟨rfl, e224, (by decide : 8 + 0 ≤ _), (by decide : 19 + 0 ≤ _)⟩)
        dsimp only [Pt.U, Pt.locs, Pt.cells, Pt.slots] at X231 l231 y231 z231 st231 hQ231
        subst l231 y231 z231
        obtain ⟨rfl, Nq231, p231_0, p231_1, p231_2, p231_3, p231_4⟩ := hQ231
        have N231_ := Fr.app N224_ Nq231
        refine FinH.byS st231 ?_
        have sf233 : Safe Z consts_1 T101.vm h214 a214 := (Safe.ext E214 ch108.1 (Safe.new (Nat.le_of_eq g214.symm)))
        have sf234 : Safe Z consts_1 T101.vm T219.heap t220 := (Safe.keep p219_0 (allS sf233 all0) ch215.1 (Safe.new p219_1))
        have ch232 : CHr Z consts_1 s.vm h0 T101.vm T231.heap := ch222.trans (CHr.keep p231_0 (allS (Safe.exa hZ101.alike p219_2 (by decide) (by decide)) (allS sf234 all0)) ch222.1)
        refine FinH.by (fun tt_ kk_ => XS.iload X231.here hx rfl (hb hby at_102) rfl (XS.iconst X231.here hx rfl (hb hby at_104) kk_)) ?_
        show FinH _ _ _ _ _ _ _ _ _ (T231.setTop (mkF m 105 #[.val (.int p1), .val (.int p2), .val (.int p3), .val (.int p4), .val (.int p5), .val (.int 1), .val (.int n), .val (.int mm), .val (.int q0), .val (.int q1), .val (.int q2), .val (.int q3), .val (.ref x102), .val (.ref a214), .val (.int (nar .boolean (own_z 0))), .unset, .unset] [(.int 1), (.int n)]))
        by_cases hn1 : (1 : Int32) < n
        · refine FinH.by (fun tt_ kk_ => XS.icmpNo X231.here hx rfl (hb hby at_105) rfl (tlt hn1).2.2.2 kk_) ?_
          refine FinH.by (fun tt_ kk_ => XS.aload X231.here hx rfl (hb hby at_108) rfl rfl (XS.iload X231.here hx rfl (hb hby at_110) rfl kk_)) ?_
          have z239 : n0 ≤ T231.heap.size := Nat.le_trans z223 p231_0.1
          obtain ⟨cq240, kq240, qa240, qb240, qc240⟩ := isOf hZ101 rfl p231_1
          obtain ⟨v240, _, ⟨T240, L240, k240, n240⟩, -, X240, ⟨Lc240, hQ240, l240, y240, z240⟩, st240⟩ := X231.virtualBack hx (y := y_25) (z := y_25) hown101 (mvT hZ101 (w_ hw 44 rfl)) (mvT hZ101 (w_ hw 45 rfl)) (notFace_of_selects (args := #[]) (mvT hZ101 (w_ hw 47 rfl))) (mvT hZ101 (w_ hw 47 rfl)) (mvT hZ101 (w_ hw 46 rfl)) (by decide) (backOf (W := 0) (rm_add1_1 l Z a0 hw [] a214 t220 k221 q1 (nar .char q0) T231.heap n0 z239 p231_1 p231_2 p231_3 p231_4 g216 g228 ne230) hZ101 (w_ hw 48 rfl) (w_ hw 30 rfl) (by decide) (by decide)) qa240 qc240 (g := (mkF m 112 #[.val (.int p1), .val (.int p2), .val (.int p3), .val (.int p4), .val (.int p5), .val (.int 1), .val (.int n), .val (.int mm), .val (.int q0), .val (.int q1), .val (.int q2), .val (.int q3), .val (.ref x102), .val (.ref a214), .val (.int (nar .boolean (own_z 0))), .unset, .unset] [(.int q1), (.ref a214)])) rfl (by rw [hml]; rfl) (Steps.refl _) (argsL := [(.int q1)]) (rest := []) (lenOf pd_415 rfl) rfl (by show 2 * 0 + _ ≤ _; exact Nat.le_of_eq rfl) (hb hby at_112) (fun _ _ => ⟨rfl, rfl, (by decide : 8 + 0 ≤ _), (by decide : 19 + 0 ≤ _)⟩)
          dsimp only [Pt.U, Pt.locs, Pt.cells, Pt.slots] at X240 l240 y240 z240 st240 hQ240
          subst l240 y240 z240
          obtain ⟨rfl, Nq240, p240_0, p240_1, p240_2, p240_3, p240_4⟩ := hQ240
          have N240_ := Fr.app N231_ Nq240
          refine FinH.byS st240 ?_
          have sf242 : Safe Z consts_1 T101.vm T219.heap a214 := (Safe.keep p219_0 (allS sf233 all0) ch215.1 sf233)
          have sf243 : Safe Z consts_1 T101.vm T231.heap t220 := (Safe.keep p231_0 (allS sf242 (allS sf234 all0)) ch222.1 sf234)
          have ch241 : CHr Z consts_1 s.vm h0 T101.vm T240.heap := ch232.trans (CHr.keep p240_0 (allS (Safe.exa hZ101.alike p231_1 (by decide) (by decide)) (allS sf243 all0)) ch232.1)
          refine FinH.by (fun tt_ kk_ => XS.iload X240.here hx rfl (hb hby at_115) rfl (XS.iconst X240.here hx rfl (hb hby at_117) kk_)) ?_
          show FinH _ _ _ _ _ _ _ _ _ (T240.setTop (mkF m 118 #[.val (.int p1), .val (.int p2), .val (.int p3), .val (.int p4), .val (.int p5), .val (.int 1), .val (.int n), .val (.int mm), .val (.int q0), .val (.int q1), .val (.int q2), .val (.int q3), .val (.ref x102), .val (.ref a214), .val (.int (nar .boolean (own_z 0))), .unset, .unset] [(.int 2), (.int n)]))
          by_cases hn2 : (2 : Int32) < n
          · refine FinH.by (fun tt_ kk_ => XS.icmpNo X240.here hx rfl (hb hby at_118) rfl (tlt hn2).2.2.2 kk_) ?_
            refine FinH.by (fun tt_ kk_ => XS.aload X240.here hx rfl (hb hby at_121) rfl rfl (XS.iload X240.here hx rfl (hb hby at_123) rfl kk_)) ?_
            have z249 : n0 ≤ T240.heap.size := Nat.le_trans z239 p240_0.1
            obtain ⟨cq250, kq250, qa250, qb250, qc250⟩ := isOf hZ101 rfl p240_1
            obtain ⟨v250, _, ⟨T250, L250, k250, n250⟩, -, X250, ⟨Lc250, hQ250, l250, y250, z250⟩, st250⟩ := X240.virtualBack hx (y := y_25) (z := y_25) hown101 (mvT hZ101 (w_ hw 44 rfl)) (mvT hZ101 (w_ hw 45 rfl)) (notFace_of_selects (args := #[]) (mvT hZ101 (w_ hw 47 rfl))) (mvT hZ101 (w_ hw 47 rfl)) (mvT hZ101 (w_ hw 46 rfl)) (by decide) (backOf (W := 0) (rm_add1_2 l Z a0 hw [] a214 t220 k221 q2 (nar .char q0) T240.heap n0 z249 p240_1 p240_2 p240_3 p240_4 g216 g228 ne230) hZ101 (w_ hw 48 rfl) (w_ hw 30 rfl) (by decide) (by decide)) qa250 qc250 (g := (mkF m 125 #[.val (.int p1), .val (.int p2), .val (.int p3), .val (.int p4), .val (.int p5), .val (.int 1), .val (.int n), .val (.int mm), .val (.int q0), .val (.int q1), .val (.int q2), .val (.int q3), .val (.ref x102), .val (.ref a214), .val (.int (nar .boolean (own_z 0))), .unset, .unset] [(.int q2), (.ref a214)])) rfl (by rw [hml]; rfl) (Steps.refl _) (argsL := [(.int q2)]) (rest := []) (lenOf pd_415 rfl) rfl (by show 2 * 0 + _ ≤ _; exact Nat.le_of_eq rfl) (hb hby at_125) (fun _ _ => ⟨rfl, rfl, (by decide : 8 + 0 ≤ _), (by decide : 19 + 0 ≤ _)⟩)
            dsimp only [Pt.U, Pt.locs, Pt.cells, Pt.slots] at X250 l250 y250 z250 st250 hQ250
            subst l250 y250 z250
            obtain ⟨rfl, Nq250, p250_0, p250_1, p250_2, p250_3, p250_4⟩ := hQ250
            have N250_ := Fr.app N240_ Nq250
            refine FinH.byS st250 ?_
            have sf252 : Safe Z consts_1 T101.vm T231.heap a214 := (Safe.keep p231_0 (allS sf242 (allS sf234 all0)) ch222.1 sf242)
            have sf253 : Safe Z consts_1 T101.vm T240.heap t220 := (Safe.keep p240_0 (allS sf252 (allS sf243 all0)) ch232.1 sf243)
            have ch251 : CHr Z consts_1 s.vm h0 T101.vm T250.heap := ch241.trans (CHr.keep p250_0 (allS (Safe.exa hZ101.alike p240_1 (by decide) (by decide)) (allS sf253 all0)) ch241.1)
            refine FinH.by (fun tt_ kk_ => XS.iload X250.here hx rfl (hb hby at_128) rfl (XS.iconst X250.here hx rfl (hb hby at_130) kk_)) ?_
            show FinH _ _ _ _ _ _ _ _ _ (T250.setTop (mkF m 131 #[.val (.int p1), .val (.int p2), .val (.int p3), .val (.int p4), .val (.int p5), .val (.int 1), .val (.int n), .val (.int mm), .val (.int q0), .val (.int q1), .val (.int q2), .val (.int q3), .val (.ref x102), .val (.ref a214), .val (.int (nar .boolean (own_z 0))), .unset, .unset] [(.int 3), (.int n)]))
            by_cases hn3 : (3 : Int32) < n
            · refine FinH.by (fun tt_ kk_ => XS.icmpNo X250.here hx rfl (hb hby at_131) rfl (tlt hn3).2.2.2 kk_) ?_
              refine FinH.by (fun tt_ kk_ => XS.aload X250.here hx rfl (hb hby at_134) rfl rfl (XS.iload X250.here hx rfl (hb hby at_136) rfl kk_)) ?_
              have z260 : n0 ≤ T250.heap.size := Nat.le_trans z249 p250_0.1
              obtain ⟨cq261, kq261, qa261, qb261, qc261⟩ := isOf hZ101 rfl p250_1
              obtain ⟨v261, _, ⟨T261, L261, k261, n261⟩, -, X261, ⟨Lc261, hQ261, l261, y261, z261⟩, st261⟩ := X250.virtualBack hx (y := y_25) (z := y_25) hown101 (mvT hZ101 (w_ hw 44 rfl)) (mvT hZ101 (w_ hw 45 rfl)) (notFace_of_selects (args := #[]) (mvT hZ101 (w_ hw 47 rfl))) (mvT hZ101 (w_ hw 47 rfl)) (mvT hZ101 (w_ hw 46 rfl)) (by decide) (backOf (W := 0) (rm_add1_2 l Z a0 hw [] a214 t220 k221 q3 (nar .char q0) T250.heap n0 z260 p250_1 p250_2 p250_3 p250_4 g216 g228 ne230) hZ101 (w_ hw 48 rfl) (w_ hw 30 rfl) (by decide) (by decide)) qa261 qc261 (g := (mkF m 138 #[.val (.int p1), .val (.int p2), .val (.int p3), .val (.int p4), .val (.int p5), .val (.int 1), .val (.int n), .val (.int mm), .val (.int q0), .val (.int q1), .val (.int q2), .val (.int q3), .val (.ref x102), .val (.ref a214), .val (.int (nar .boolean (own_z 0))), .unset, .unset] [(.int q3), (.ref a214)])) rfl (by rw [hml]; rfl) (Steps.refl _) (argsL := [(.int q3)]) (rest := []) (lenOf pd_415 rfl) rfl (by show 2 * 0 + _ ≤ _; exact Nat.le_of_eq rfl) (hb hby at_138) (fun _ _ => ⟨rfl, rfl, (by decide : 8 + 0 ≤ _), (by decide : 19 + 0 ≤ _)⟩)
              dsimp only [Pt.U, Pt.locs, Pt.cells, Pt.slots] at X261 l261 y261 z261 st261 hQ261
              subst l261 y261 z261
              obtain ⟨rfl, Nq261, p261_0, p261_1, p261_2, p261_3, p261_4⟩ := hQ261
              have N261_ := Fr.app N250_ Nq261
              refine FinH.byS st261 ?_
              have sf263 : Safe Z consts_1 T101.vm T240.heap a214 := (Safe.keep p240_0 (allS sf252 (allS sf243 all0)) ch232.1 sf252)
              have sf264 : Safe Z consts_1 T101.vm T250.heap t220 := (Safe.keep p250_0 (allS sf263 (allS sf253 all0)) ch241.1 sf253)
              have ch262 : CHr Z consts_1 s.vm h0 T101.vm T261.heap := ch251.trans (CHr.keep p261_0 (allS (Safe.exa hZ101.alike p250_1 (by decide) (by decide)) (allS sf264 all0)) ch251.1)
              obtain rfl : n = (4 : Int32) := by rcases hn with rfl | rfl | rfl | rfl | rfl <;> first | rfl | (exact absurd hn3 (by decide))
              show FinH _ _ _ _ _ _ _ _ _ (T261.setTop (mkF m 141 #[.val (.int p1), .val (.int p2), .val (.int p3), .val (.int p4), .val (.int p5), .val (.int 1), .val (.int 4), .val (.int mm), .val (.int q0), .val (.int q1), .val (.int q2), .val (.int q3), .val (.ref x102), .val (.ref a214), .val (.int (nar .boolean (own_z 0))), .unset, .unset] []))
              have kp265 : Keep T101.heap h214 [] := (Keep.refl T101.heap []).ext E214
              have kp266 : Keep T101.heap T219.heap [] := kp265.trans p219_0 (allS (Or.inr (Nat.le_trans (Nat.le_refl _) (Nat.le_of_eq g214.symm))) all0)
              have kp267 : Keep T101.heap T231.heap [] := kp266.trans p231_0 (allS (Or.inr (Nat.le_trans (Nat.le_refl _) (Nat.le_of_eq g214.symm))) (allS (Or.inr (Nat.le_trans E214.1 p219_1)) all0))
              have kp268 : Keep T101.heap T240.heap [] := kp267.trans p240_0 (allS (Or.inr (Nat.le_trans (Nat.le_refl _) (Nat.le_of_eq g214.symm))) (allS (Or.inr (Nat.le_trans E214.1 p219_1)) all0))
              have kp269 : Keep T101.heap T250.heap [] := kp268.trans p250_0 (allS (Or.inr (Nat.le_trans (Nat.le_refl _) (Nat.le_of_eq g214.symm))) (allS (Or.inr (Nat.le_trans E214.1 p219_1)) all0))
              have kp270 : Keep T101.heap T261.heap [] := kp269.trans p261_0 (allS (Or.inr (Nat.le_trans (Nat.le_refl _) (Nat.le_of_eq g214.symm))) (allS (Or.inr (Nat.le_trans E214.1 p219_1)) all0))
              have sf271 : Safe Z consts_1 T101.vm T250.heap a214 := (Safe.keep p250_0 (allS sf263 (allS sf253 all0)) ch241.1 sf263)
              exact J141 T261 T261.heap _ T101.vm _ a214 t220 k221 (1 : Int32) (4 : Int32) (2 : Int32) [(.int (nar .char q0))] (X261.more (by decide) (by decide)) rfl N261_ kp270 hS101w (Nat.le_trans (Nat.le_refl _) (Nat.le_trans (Nat.le_trans (Nat.le_trans (Nat.le_trans (Nat.le_trans E214.1 p219_0.1) p231_0.1) p240_0.1) p250_0.1) p261_0.1)) hZ101 hown101 ((((((CHr.ext E214 ch108.1).trans (CHr.keep p219_0 (allS sf233 all0) ch215.1)).trans (CHr.keep p231_0 (allS sf242 (allS sf234 all0)) ch222.1)).trans (CHr.keep p240_0 (allS sf252 (allS sf243 all0)) ch232.1)).trans (CHr.keep p250_0 (allS sf263 (allS sf253 all0)) ch241.1)).trans (CHr.keep p261_0 (allS sf271 (allS sf264 all0)) ch251.1)) p261_1 p261_3 p261_2 p261_4 (Or.inr ⟨by decide, by decide⟩) (Or.inr ⟨fun q => hm.2 (by rw [← q]; decide), fun q => hm.2 (by rw [← q]; decide)⟩)
            · refine FinH.by (fun tt_ kk_ => XS.icmpYes X250.here hx rfl (pc0 := 131) (pc' := 141) rfl (hb hby at_131) rfl (flt hn3).2.2.2 (by decide) (by decide) kk_) ?_
              obtain rfl : n = (3 : Int32) := by rcases hn with rfl | rfl | rfl | rfl | rfl <;> first | rfl | (exact absurd hn3 (by decide)) | (exact absurd (by decide) hn3) | (exact absurd hn2 (by decide))
              show FinH _ _ _ _ _ _ _ _ _ (T250.setTop (mkF m 141 #[.val (.int p1), .val (.int p2), .val (.int p3), .val (.int p4), .val (.int p5), .val (.int 1), .val (.int 3), .val (.int mm), .val (.int q0), .val (.int q1), .val (.int q2), .val (.int q3), .val (.ref x102), .val (.ref a214), .val (.int (nar .boolean (own_z 0))), .unset, .unset] []))
              have kp254 : Keep T101.heap h214 [] := (Keep.refl T101.heap []).ext E214
              have kp255 : Keep T101.heap T219.heap [] := kp254.trans p219_0 (allS (Or.inr (Nat.le_trans (Nat.le_refl _) (Nat.le_of_eq g214.symm))) all0)
              have kp256 : Keep T101.heap T231.heap [] := kp255.trans p231_0 (allS (Or.inr (Nat.le_trans (Nat.le_refl _) (Nat.le_of_eq g214.symm))) (allS (Or.inr (Nat.le_trans E214.1 p219_1)) all0))
              have kp257 : Keep T101.heap T240.heap [] := kp256.trans p240_0 (allS (Or.inr (Nat.le_trans (Nat.le_refl _) (Nat.le_of_eq g214.symm))) (allS (Or.inr (Nat.le_trans E214.1 p219_1)) all0))
              have kp258 : Keep T101.heap T250.heap [] := kp257.trans p250_0 (allS (Or.inr (Nat.le_trans (Nat.le_refl _) (Nat.le_of_eq g214.symm))) (allS (Or.inr (Nat.le_trans E214.1 p219_1)) all0))
              have sf259 : Safe Z consts_1 T101.vm T240.heap a214 := (Safe.keep p240_0 (allS sf252 (allS sf243 all0)) ch232.1 sf252)
              exact J141 T250 T250.heap _ T101.vm _ a214 t220 k221 (1 : Int32) (3 : Int32) (2 : Int32) [(.int (nar .char q0))] (X250.more (by decide) (by decide)) rfl N250_ kp258 hS101w (Nat.le_trans (Nat.le_refl _) (Nat.le_trans (Nat.le_trans (Nat.le_trans (Nat.le_trans E214.1 p219_0.1) p231_0.1) p240_0.1) p250_0.1)) hZ101 hown101 (((((CHr.ext E214 ch108.1).trans (CHr.keep p219_0 (allS sf233 all0) ch215.1)).trans (CHr.keep p231_0 (allS sf242 (allS sf234 all0)) ch222.1)).trans (CHr.keep p240_0 (allS sf252 (allS sf243 all0)) ch232.1)).trans (CHr.keep p250_0 (allS sf259 (allS sf253 all0)) ch241.1)) p250_1 p250_3 p250_2 p250_4 (Or.inr ⟨by decide, by decide⟩) (Or.inr ⟨fun q => hm.2 (by rw [← q]; decide), fun q => hm.2 (by rw [← q]; decide)⟩)
          · refine FinH.by (fun tt_ kk_ => XS.icmpYes X240.here hx rfl (pc0 := 118) (pc' := 128) rfl (hb hby at_118) rfl (flt hn2).2.2.2 (by decide) (by decide) kk_) ?_
            obtain rfl : n = (2 : Int32) := by rcases hn with rfl | rfl | rfl | rfl | rfl <;> first | rfl | (exact absurd hn2 (by decide)) | (exact absurd (by decide) hn2) | (exact absurd hn1 (by decide))
            refine FinH.by (fun tt_ kk_ => XS.iload X240.here hx rfl (hb hby at_128) rfl (XS.iconst X240.here hx rfl (hb hby at_130) kk_)) ?_
            show FinH _ _ _ _ _ _ _ _ _ (T240.setTop (mkF m 131 #[.val (.int p1), .val (.int p2), .val (.int p3), .val (.int p4), .val (.int p5), .val (.int 1), .val (.int 2), .val (.int mm), .val (.int q0), .val (.int q1), .val (.int q2), .val (.int q3), .val (.ref x102), .val (.ref a214), .val (.int (nar .boolean (own_z 0))), .unset, .unset] [(.int 3), (.int 2)]))
            refine FinH.by (fun tt_ kk_ => XS.icmpYes X240.here hx rfl (pc0 := 131) (pc' := 141) rfl (hb hby at_131) rfl (flt (by decide : ¬ (3 : Int32) < (2 : Int32))).2.2.2 (by decide) (by decide) kk_) ?_
            show FinH _ _ _ _ _ _ _ _ _ (T240.setTop (mkF m 141 #[.val (.int p1), .val (.int p2), .val (.int p3), .val (.int p4), .val (.int p5), .val (.int 1), .val (.int 2), .val (.int mm), .val (.int q0), .val (.int q1), .val (.int q2), .val (.int q3), .val (.ref x102), .val (.ref a214), .val (.int (nar .boolean (own_z 0))), .unset, .unset] []))
            have kp244 : Keep T101.heap h214 [] := (Keep.refl T101.heap []).ext E214
            have kp245 : Keep T101.heap T219.heap [] := kp244.trans p219_0 (allS (Or.inr (Nat.le_trans (Nat.le_refl _) (Nat.le_of_eq g214.symm))) all0)
            have kp246 : Keep T101.heap T231.heap [] := kp245.trans p231_0 (allS (Or.inr (Nat.le_trans (Nat.le_refl _) (Nat.le_of_eq g214.symm))) (allS (Or.inr (Nat.le_trans E214.1 p219_1)) all0))
            have kp247 : Keep T101.heap T240.heap [] := kp246.trans p240_0 (allS (Or.inr (Nat.le_trans (Nat.le_refl _) (Nat.le_of_eq g214.symm))) (allS (Or.inr (Nat.le_trans E214.1 p219_1)) all0))
            have sf248 : Safe Z consts_1 T101.vm T231.heap a214 := (Safe.keep p231_0 (allS sf242 (allS sf234 all0)) ch222.1 sf242)
            exact J141 T240 T240.heap _ T101.vm _ a214 t220 k221 (1 : Int32) (2 : Int32) (2 : Int32) [(.int (nar .char q0))] (X240.more (by decide) (by decide)) rfl N240_ kp247 hS101w (Nat.le_trans (Nat.le_refl _) (Nat.le_trans (Nat.le_trans (Nat.le_trans E214.1 p219_0.1) p231_0.1) p240_0.1)) hZ101 hown101 ((((CHr.ext E214 ch108.1).trans (CHr.keep p219_0 (allS sf233 all0) ch215.1)).trans (CHr.keep p231_0 (allS sf242 (allS sf234 all0)) ch222.1)).trans (CHr.keep p240_0 (allS sf248 (allS sf243 all0)) ch232.1)) p240_1 p240_3 p240_2 p240_4 (Or.inr ⟨by decide, by decide⟩) (Or.inr ⟨fun q => hm.2 (by rw [← q]; decide), fun q => hm.2 (by rw [← q]; decide)⟩)
        · refine FinH.by (fun tt_ kk_ => XS.icmpYes X231.here hx rfl (pc0 := 105) (pc' := 115) rfl (hb hby at_105) rfl (flt hn1).2.2.2 (by decide) (by decide) kk_) ?_
          obtain rfl : n = (1 : Int32) := by rcases hn with rfl | rfl | rfl | rfl | rfl <;> first | rfl | (exact absurd hn1 (by decide)) | (exact absurd (by decide) hn1) | (exact absurd hn0 (by decide))
          refine FinH.by (fun tt_ kk_ => XS.iload X231.here hx rfl (hb hby at_115) rfl (XS.iconst X231.here hx rfl (hb hby at_117) kk_)) ?_
          show FinH _ _ _ _ _ _ _ _ _ (T231.setTop (mkF m 118 #[.val (.int p1), .val (.int p2), .val (.int p3), .val (.int p4), .val (.int p5), .val (.int 1), .val (.int 1), .val (.int mm), .val (.int q0), .val (.int q1), .val (.int q2), .val (.int q3), .val (.ref x102), .val (.ref a214), .val (.int (nar .boolean (own_z 0))), .unset, .unset] [(.int 2), (.int 1)]))
          refine FinH.by (fun tt_ kk_ => XS.icmpYes X231.here hx rfl (pc0 := 118) (pc' := 128) rfl (hb hby at_118) rfl (flt (by decide : ¬ (2 : Int32) < (1 : Int32))).2.2.2 (by decide) (by decide) kk_) ?_
          refine FinH.by (fun tt_ kk_ => XS.iload X231.here hx rfl (hb hby at_128) rfl (XS.iconst X231.here hx rfl (hb hby at_130) kk_)) ?_
          show FinH _ _ _ _ _ _ _ _ _ (T231.setTop (mkF m 131 #[.val (.int p1), .val (.int p2), .val (.int p3), .val (.int p4), .val (.int p5), .val (.int 1), .val (.int 1), .val (.int mm), .val (.int q0), .val (.int q1), .val (.int q2), .val (.int q3), .val (.ref x102), .val (.ref a214), .val (.int (nar .boolean (own_z 0))), .unset, .unset] [(.int 3), (.int 1)]))
          refine FinH.by (fun tt_ kk_ => XS.icmpYes X231.here hx rfl (pc0 := 131) (pc' := 141) rfl (hb hby at_131) rfl (flt (by decide : ¬ (3 : Int32) < (1 : Int32))).2.2.2 (by decide) (by decide) kk_) ?_
          show FinH _ _ _ _ _ _ _ _ _ (T231.setTop (mkF m 141 #[.val (.int p1), .val (.int p2), .val (.int p3), .val (.int p4), .val (.int p5), .val (.int 1), .val (.int 1), .val (.int mm), .val (.int q0), .val (.int q1), .val (.int q2), .val (.int q3), .val (.ref x102), .val (.ref a214), .val (.int (nar .boolean (own_z 0))), .unset, .unset] []))
          have kp235 : Keep T101.heap h214 [] := (Keep.refl T101.heap []).ext E214
          have kp236 : Keep T101.heap T219.heap [] := kp235.trans p219_0 (allS (Or.inr (Nat.le_trans (Nat.le_refl _) (Nat.le_of_eq g214.symm))) all0)
          have kp237 : Keep T101.heap T231.heap [] := kp236.trans p231_0 (allS (Or.inr (Nat.le_trans (Nat.le_refl _) (Nat.le_of_eq g214.symm))) (allS (Or.inr (Nat.le_trans E214.1 p219_1)) all0))
          have sf238 : Safe Z consts_1 T101.vm T219.heap a214 := (Safe.keep p219_0 (allS sf233 all0) ch215.1 sf233)
          exact J141 T231 T231.heap _ T101.vm _ a214 t220 k221 (1 : Int32) (1 : Int32) (1 : Int32) [(.int (nar .char q0))] (X231.more (by decide) (by decide)) rfl N231_ kp237 hS101w (Nat.le_trans (Nat.le_refl _) (Nat.le_trans (Nat.le_trans E214.1 p219_0.1) p231_0.1)) hZ101 hown101 (((CHr.ext E214 ch108.1).trans (CHr.keep p219_0 (allS sf233 all0) ch215.1)).trans (CHr.keep p231_0 (allS sf238 (allS sf234 all0)) ch222.1)) p231_1 p231_3 p231_2 p231_4 (Or.inr ⟨by decide, by decide⟩) (if hmn : mm = (1 : Int32) then Or.inl ⟨hmn.symm, hmn.symm, by rw [hmn, own_pre1]; rfl, by rw [hmn, own_pre1]; exact Nat.le_of_ble_eq_true rfl⟩ else Or.inr ⟨fun q => hmn q.symm, fun q => hmn q.symm⟩)
      · refine FinH.by (fun tt_ kk_ => XS.ifYes X224.here hx rfl (pc0 := 92) (pc' := 102) rfl (hb hby at_92) rfl ((if0 _ _).trans (flt hn0).2.2.2) (by decide) (by decide) kk_) ?_
        obtain rfl : n = (0 : Int32) := by rcases hn with rfl | rfl | rfl | rfl | rfl <;> first | rfl | (exact absurd hn0 (by decide)) | (exact absurd (by decide) hn0)
        refine FinH.by (fun tt_ kk_ => XS.iload X224.here hx rfl (hb hby at_102) rfl (XS.iconst X224.here hx rfl (hb hby at_104) kk_)) ?_
        show FinH _ _ _ _ _ _ _ _ _ (T224.setTop (mkF m 105 #[.val (.int p1), .val (.int p2), .val (.int p3), .val (.int p4), .val (.int p5), .val (.int 1), .val (.int 0), .val (.int mm), .val (.int q0), .val (.int q1), .val (.int q2), .val (.int q3), .val (.ref x102), .val (.ref a214), .val (.int (nar .boolean (own_z 0))), .unset, .unset] [(.int 1), (.int 0)]))
        refine FinH.by (fun tt_ kk_ => XS.icmpYes X224.here hx rfl (pc0 := 105) (pc' := 115) rfl (hb hby at_105) rfl (flt (by decide : ¬ (1 : Int32) < (0 : Int32))).2.2.2 (by decide) (by decide) kk_) ?_
        refine FinH.by (fun tt_ kk_ => XS.iload X224.here hx rfl (hb hby at_115) rfl (XS.iconst X224.here hx rfl (hb hby at_117) kk_)) ?_
        show FinH _ _ _ _ _ _ _ _ _ (T224.setTop (mkF m 118 #[.val (.int p1), .val (.int p2), .val (.int p3), .val (.int p4), .val (.int p5), .val (.int 1), .val (.int 0), .val (.int mm), .val (.int q0), .val (.int q1), .val (.int q2), .val (.int q3), .val (.ref x102), .val (.ref a214), .val (.int (nar .boolean (own_z 0))), .unset, .unset] [(.int 2), (.int 0)]))
        refine FinH.by (fun tt_ kk_ => XS.icmpYes X224.here hx rfl (pc0 := 118) (pc' := 128) rfl (hb hby at_118) rfl (flt (by decide : ¬ (2 : Int32) < (0 : Int32))).2.2.2 (by decide) (by decide) kk_) ?_
        refine FinH.by (fun tt_ kk_ => XS.iload X224.here hx rfl (hb hby at_128) rfl (XS.iconst X224.here hx rfl (hb hby at_130) kk_)) ?_
        show FinH _ _ _ _ _ _ _ _ _ (T224.setTop (mkF m 131 #[.val (.int p1), .val (.int p2), .val (.int p3), .val (.int p4), .val (.int p5), .val (.int 1), .val (.int 0), .val (.int mm), .val (.int q0), .val (.int q1), .val (.int q2), .val (.int q3), .val (.ref x102), .val (.ref a214), .val (.int (nar .boolean (own_z 0))), .unset, .unset] [(.int 3), (.int 0)]))
        refine FinH.by (fun tt_ kk_ => XS.icmpYes X224.here hx rfl (pc0 := 131) (pc' := 141) rfl (hb hby at_131) rfl (flt (by decide : ¬ (3 : Int32) < (0 : Int32))).2.2.2 (by decide) (by decide) kk_) ?_
        show FinH _ _ _ _ _ _ _ _ _ (T224.setTop (mkF m 141 #[.val (.int p1), .val (.int p2), .val (.int p3), .val (.int p4), .val (.int p5), .val (.int 1), .val (.int 0), .val (.int mm), .val (.int q0), .val (.int q1), .val (.int q2), .val (.int q3), .val (.ref x102), .val (.ref a214), .val (.int (nar .boolean (own_z 0))), .unset, .unset] []))
        have kp225 : Keep T101.heap h214 [] := (Keep.refl T101.heap []).ext E214
        have kp226 : Keep T101.heap T219.heap [] := kp225.trans p219_0 (allS (Or.inr (Nat.le_trans (Nat.le_refl _) (Nat.le_of_eq g214.symm))) all0)
        have sf227 : Safe Z consts_1 T101.vm h214 a214 := (Safe.ext E214 ch108.1 (Safe.new (Nat.le_of_eq g214.symm)))
        exact J141 T224 T219.heap _ T101.vm _ a214 t220 k221 (1 : Int32) (0 : Int32) (0 : Int32) [(.int (0 : Int32))] (X224.more (by decide) (by decide)) e224 N224_ kp226 hS101w (Nat.le_trans (Nat.le_refl _) (Nat.le_trans E214.1 p219_0.1)) hZ101 hown101 ((CHr.ext E214 ch108.1).trans (CHr.keep p219_0 (allS sf227 all0) ch215.1)) p219_2 p219_4 p219_3 p219_5 (Or.inl ⟨rfl, rfl⟩) (if hmn : mm = (0 : Int32) then Or.inl ⟨hmn.symm, hmn.symm, by rw [hmn, own_pre0]; rfl, by rw [hmn, own_pre0]; exact Nat.le_of_ble_eq_true rfl⟩ else Or.inr ⟨fun q => hmn q.symm, fun q => hmn q.symm⟩)
    · obtain ⟨T272, h272, X272, e272, E272, A272, D272, -, st272⟩ := newO X101w hx hZ101 hown101 (w_ hw 28 rfl) (w_ hw 29 rfl) (w_ hw 30 rfl) rfl (g := (mkF m 72 #[.val (.int p1), .val (.int p2), .val (.int p3), .val (.int p4), .val (.int p5), .val (.int 2), .val (.int n), .val (.int mm), .val (.int q0), .val (.int q1), .val (.int q2), .val (.int q3), .val (.ref x102), .unset, .unset, .unset, .unset] [])) rfl (hb hby at_72) (by decide) (by decide)
      obtain ⟨a272, g272⟩ : ∃ z, z = T101.heap.size := ⟨_, rfl⟩
      rw [← g272] at A272 D272 st272
      refine FinH.by (fun tt_ kk_ => st272 tt_ kk_) ?_
      have ch273 : CHr Z consts_1 s.vm h0 T101.vm h272 := ch108.trans (CHr.ext E272 ch108.1)
      refine FinH.by (fun tt_ kk_ => XS.dup X272.here hx rfl (hb hby at_75) rfl rfl (XS.iload X272.here hx rfl (hb hby at_76) rfl kk_)) ?_
      have z275 : n0 ≤ T101.heap.size := Nat.le_trans Z0 p101_0.1
      have g274 : n0 ≤ a272 := Nat.le_trans z275 (Nat.le_of_eq g272.symm)
      have z276 : n0 ≤ h272.size := Nat.le_trans Z0 (Nat.le_trans p101_0.1 E272.1)
      obtain ⟨v277, _, ⟨T277, L277, k277, n277⟩, -, X277, ⟨Lc277, hQ277, l277, y277, z277⟩, st277⟩ := X272.specialBack hx (y := y_24) rfl hown101 (mvT hZ101 (w_ hw 31 rfl)) (mvT hZ101 (w_ hw 32 rfl)) (mvT hZ101 (w_ hw 33 rfl)) (by decide) (backOf (W := 1) (rm_wbi2 l Z a0 hw [] a272 h272 n0 z276 A272 (D272 (Or.inr (w_ hw 36 rfl)) (ty := (.array .char)) (by decide) : Fld Z h272 a272 "com/example/colonnade/colonnade/WordBuffer" "chars" "[C" .null) (D272 (Or.inl (w_ hw 43 rfl)) (ty := .int) (by decide) : Fld Z h272 a272 "com/example/colonnade/colonnade/WordBuffer" "length" "I" (.int (0 : Int32))) g274) hZ101 (w_ hw 33 rfl) (w_ hw 30 rfl) (by decide) (by decide)) (g := (mkF m 78 #[.val (.int p1), .val (.int p2), .val (.int p3), .val (.int p4), .val (.int p5), .val (.int 2), .val (.int n), .val (.int mm), .val (.int q0), .val (.int q1), .val (.int q2), .val (.int q3), .val (.ref x102), .unset, .unset, .unset, .unset] [(.int 2), (.ref a272), (.ref a272)])) rfl (by rw [hml]; rfl) (Steps.refl _) (a := a272) (argsL := [(.int 2)]) (rest := [(.ref a272)]) (lenOf pd_414 rfl) rfl (by show 2 * 0 + _ ≤ _; exact Nat.le_of_eq rfl) (hb hby at_78) (fun _ _ => ⟨rfl, e272, (by decide : 7 + 1 ≤ _), (by decide : 18 + 2 ≤ _)⟩)
      dsimp only [Pt.U, Pt.locs, Pt.cells, Pt.slots] at X277 l277 y277 z277 st277 hQ277
      subst l277 y277 z277
      obtain ⟨t278, k279, rfl, Nq277, p277_0, p277_1, p277_2, p277_3, p277_4, p277_5⟩ := hQ277
      have N277_ := Fr.app N101_ Nq277
      refine FinH.byS st277 ?_
      have ch280 : CHr Z consts_1 s.vm h0 T101.vm T277.heap := ch273.trans (CHr.keep p277_0 (allS (Safe.exa hZ101.alike A272 (by decide) (by decide)) all0) ch273.1)
      refine FinH.by (fun tt_ kk_ => XS.astore X277.here hx rfl (hb hby at_81) rfl rfl (l' := #[.val (.int p1), .val (.int p2), .val (.int p3), .val (.int p4), .val (.int p5), .val (.int 2), .val (.int n), .val (.int mm), .val (.int q0), .val (.int q1), .val (.int q2), .val (.int q3), .val (.ref x102), .val (.ref a272), .unset, .unset, .unset]) rfl (XS.aload X277.here hx rfl (hb hby at_83) rfl rfl kk_)) ?_
      have z281 : n0 ≤ T277.heap.size := Nat.le_trans z276 p277_0.1
      obtain ⟨cq282, kq282, qa282, qb282, qc282⟩ := isOf hZ101 rfl p277_2
      obtain ⟨v282, _, ⟨T282, L282, k282, n282⟩, -, X282, ⟨Lc282, hQ282, l282, y282, z282⟩, st282⟩ := X277.virtualBack hx (y := y_20) (z := y_20) hown101 (mvT hZ101 (w_ hw 37 rfl)) (mvT hZ101 (w_ hw 38 rfl)) (notFace_of_selects (args := #[]) (mvT hZ101 (w_ hw 40 rfl))) (mvT hZ101 (w_ hw 40 rfl)) (mvT hZ101 (w_ hw 39 rfl)) (by decide) (backOf (W := 0) (rm_emp l Z a0 hw [] a272 (0 : Int32) T277.heap n0 z281 p277_4) hZ101 (w_ hw 41 rfl) (w_ hw 30 rfl) (by decide) (by decide)) qa282 qc282 (g := (mkF m 85 #[.val (.int p1), .val (.int p2), .val (.int p3), .val (.int p4), .val (.int p5), .val (.int 2), .val (.int n), .val (.int mm), .val (.int q0), .val (.int q1), .val (.int q2), .val (.int q3), .val (.ref x102), .val (.ref a272), .unset, .unset, .unset] [(.ref a272)])) rfl (by rw [hml]; rfl) (Steps.refl _) (argsL := []) (rest := []) (lenOf pd_84 rfl) rfl (by show 2 * 0 + _ ≤ _; exact Nat.le_of_eq rfl) (hb hby at_85) (fun _ _ => ⟨rfl, rfl, (by decide : 8 + 0 ≤ _), (by decide : 20 + 0 ≤ _)⟩)
      dsimp only [Pt.U, Pt.locs, Pt.cells, Pt.slots] at X282 l282 y282 z282 st282 hQ282
      subst l282 y282 z282
      obtain ⟨rfl, Nq282, e282_⟩ := hQ282
      have N282_ := Fr.app N277_ Nq282
      refine FinH.byS st282 ?_
      have e282 := e282_
      refine FinH.by (fun tt_ kk_ => XS.istore X282.here hx rfl (hb hby at_88) rfl (l' := #[.val (.int p1), .val (.int p2), .val (.int p3), .val (.int p4), .val (.int p5), .val (.int 2), .val (.int n), .val (.int mm), .val (.int q0), .val (.int q1), .val (.int q2), .val (.int q3), .val (.ref x102), .val (.ref a272), .val (.int (nar .boolean (own_z 0))), .unset, .unset]) rfl (XS.iload X282.here hx rfl (hb hby at_90) rfl kk_)) ?_
      show FinH _ _ _ _ _ _ _ _ _ (T282.setTop (mkF m 92 #[.val (.int p1), .val (.int p2), .val (.int p3), .val (.int p4), .val (.int p5), .val (.int 2), .val (.int n), .val (.int mm), .val (.int q0), .val (.int q1), .val (.int q2), .val (.int q3), .val (.ref x102), .val (.ref a272), .val (.int (nar .boolean (own_z 0))), .unset, .unset] [(.int n)]))
      by_cases hn0 : (0 : Int32) < n
      · refine FinH.by (fun tt_ kk_ => XS.ifNo X282.here hx rfl (hb hby at_92) rfl ((if0 _ _).trans (tlt hn0).2.2.2) kk_) ?_
        refine FinH.by (fun tt_ kk_ => XS.aload X282.here hx rfl (hb hby at_95) rfl rfl (XS.iload X282.here hx rfl (hb hby at_97) rfl kk_)) ?_
        have z287 : n0 ≤ h272.size := Nat.le_trans Z0 (Nat.le_trans p101_0.1 E272.1)
        have g286 : n0 ≤ t278 := Nat.le_trans z287 p277_1
        have ne288 : a272 ≠ t278 := Nat.ne_of_lt (Nat.lt_of_lt_of_le A272.lt p277_1)
        obtain ⟨cq289, kq289, qa289, qb289, qc289⟩ := isOf hZ101 e282 p277_2
        obtain ⟨v289, _, ⟨T289, L289, k289, n289⟩, -, X289, ⟨Lc289, hQ289, l289, y289, z289⟩, st289⟩ := X282.virtualBack hx (y := y_25) (z := y_25) hown101 (mvT hZ101 (w_ hw 44 rfl)) (mvT hZ101 (w_ hw 45 rfl)) (notFace_of_selects (args := #[]) (mvT hZ101 (w_ hw 47 rfl))) (mvT hZ101 (w_ hw 47 rfl)) (mvT hZ101 (w_ hw 46 rfl)) (by decide) (backOf (W := 0) (rm_add2_0 l Z a0 hw [] a272 t278 k279 q0 (0 : Int32) (0 : Int32) T277.heap n0 z281 p277_2 p277_3 p277_4 p277_5 g274 g286 ne288) hZ101 (w_ hw 48 rfl) (w_ hw 30 rfl) (by decide) (by decide)) qa289 qc289 (g := (mkF m 99 #[.val (.int p1), .val (.int p2), .val (.int p3), .val (.int p4), .val (.int p5), .val (.int 2), .val (.int n), .val (.int mm), .val (.int q0), .val (.int q1), .val (.int q2), .val (.int q3), .val (.ref x102), .val (.ref a272), .val (.int (nar .boolean (own_z 0))), .unset, .unset] [(.int q0), (.ref a272)])) rfl (by rw [hml]; rfl) (Steps.refl _) (argsL := [(.int q0)]) (rest := []) (lenOf pd_415 rfl) rfl (by show 2 * 0 + _ ≤ _; exact Nat.le_of_eq rfl) (hb hby at_99) (fun _ _ => ⟨rfl, e282, (by decide : 8 + 0 ≤ _), (by decide : 20 + 0 ≤ _)⟩)
        dsimp only [Pt.U, Pt.locs, Pt.cells, Pt.slots] at X289 l289 y289 z289 st289 hQ289
        subst l289 y289 z289
        obtain ⟨rfl, Nq289, p289_0, p289_1, p289_2, p289_3, p289_4⟩ := hQ289
        have N289_ := Fr.app N282_ Nq289
        refine FinH.byS st289 ?_
        have sf291 : Safe Z consts_1 T101.vm h272 a272 := (Safe.ext E272 ch108.1 (Safe.new (Nat.le_of_eq g272.symm)))
        have sf292 : Safe Z consts_1 T101.vm T277.heap t278 := (Safe.keep p277_0 (allS sf291 all0) ch273.1 (Safe.new p277_1))
        have ch290 : CHr Z consts_1 s.vm h0 T101.vm T289.heap := ch280.trans (CHr.keep p289_0 (allS (Safe.exa hZ101.alike p277_2 (by decide) (by decide)) (allS sf292 all0)) ch280.1)
        refine FinH.by (fun tt_ kk_ => XS.iload X289.here hx rfl (hb hby at_102) rfl (XS.iconst X289.here hx rfl (hb hby at_104) kk_)) ?_
        show FinH _ _ _ _ _ _ _ _ _ (T289.setTop (mkF m 105 #[.val (.int p1), .val (.int p2), .val (.int p3), .val (.int p4), .val (.int p5), .val (.int 2), .val (.int n), .val (.int mm), .val (.int q0), .val (.int q1), .val (.int q2), .val (.int q3), .val (.ref x102), .val (.ref a272), .val (.int (nar .boolean (own_z 0))), .unset, .unset] [(.int 1), (.int n)]))
        by_cases hn1 : (1 : Int32) < n
        · refine FinH.by (fun tt_ kk_ => XS.icmpNo X289.here hx rfl (hb hby at_105) rfl (tlt hn1).2.2.2 kk_) ?_
          refine FinH.by (fun tt_ kk_ => XS.aload X289.here hx rfl (hb hby at_108) rfl rfl (XS.iload X289.here hx rfl (hb hby at_110) rfl kk_)) ?_
          have z297 : n0 ≤ T289.heap.size := Nat.le_trans z281 p289_0.1
          obtain ⟨cq298, kq298, qa298, qb298, qc298⟩ := isOf hZ101 rfl p289_1
          obtain ⟨v298, _, ⟨T298, L298, k298, n298⟩, -, X298, ⟨Lc298, hQ298, l298, y298, z298⟩, st298⟩ := X289.virtualBack hx (y := y_25) (z := y_25) hown101 (mvT hZ101 (w_ hw 44 rfl)) (mvT hZ101 (w_ hw 45 rfl)) (notFace_of_selects (args := #[]) (mvT hZ101 (w_ hw 47 rfl))) (mvT hZ101 (w_ hw 47 rfl)) (mvT hZ101 (w_ hw 46 rfl)) (by decide) (backOf (W := 0) (rm_add2_1 l Z a0 hw [] a272 t278 k279 q1 (nar .char q0) (0 : Int32) T289.heap n0 z297 p289_1 p289_2 p289_3 p289_4 g274 g286 ne288) hZ101 (w_ hw 48 rfl) (w_ hw 30 rfl) (by decide) (by decide)) qa298 qc298 (g := (mkF m 112 #[.val (.int p1), .val (.int p2), .val (.int p3), .val (.int p4), .val (.int p5), .val (.int 2), .val (.int n), .val (.int mm), .val (.int q0), .val (.int q1), .val (.int q2), .val (.int q3), .val (.ref x102), .val (.ref a272), .val (.int (nar .boolean (own_z 0))), .unset, .unset] [(.int q1), (.ref a272)])) rfl (by rw [hml]; rfl) (Steps.refl _) (argsL := [(.int q1)]) (rest := []) (lenOf pd_415 rfl) rfl (by show 2 * 0 + _ ≤ _; exact Nat.le_of_eq rfl) (hb hby at_112) (fun _ _ => ⟨rfl, rfl, (by decide : 8 + 0 ≤ _), (by decide : 20 + 0 ≤ _)⟩)
          dsimp only [Pt.U, Pt.locs, Pt.cells, Pt.slots] at X298 l298 y298 z298 st298 hQ298
          subst l298 y298 z298
          obtain ⟨rfl, Nq298, p298_0, p298_1, p298_2, p298_3, p298_4⟩ := hQ298
          have N298_ := Fr.app N289_ Nq298
          refine FinH.byS st298 ?_
          have sf300 : Safe Z consts_1 T101.vm T277.heap a272 := (Safe.keep p277_0 (allS sf291 all0) ch273.1 sf291)
          have sf301 : Safe Z consts_1 T101.vm T289.heap t278 := (Safe.keep p289_0 (allS sf300 (allS sf292 all0)) ch280.1 sf292)
          have ch299 : CHr Z consts_1 s.vm h0 T101.vm T298.heap := ch290.trans (CHr.keep p298_0 (allS (Safe.exa hZ101.alike p289_1 (by decide) (by decide)) (allS sf301 all0)) ch290.1)
          refine FinH.by (fun tt_ kk_ => XS.iload X298.here hx rfl (hb hby at_115) rfl (XS.iconst X298.here hx rfl (hb hby at_117) kk_)) ?_
          show FinH _ _ _ _ _ _ _ _ _ (T298.setTop (mkF m 118 #[.val (.int p1), .val (.int p2), .val (.int p3), .val (.int p4), .val (.int p5), .val (.int 2), .val (.int n), .val (.int mm), .val (.int q0), .val (.int q1), .val (.int q2), .val (.int q3), .val (.ref x102), .val (.ref a272), .val (.int (nar .boolean (own_z 0))), .unset, .unset] [(.int 2), (.int n)]))
          by_cases hn2 : (2 : Int32) < n
          · refine FinH.by (fun tt_ kk_ => XS.icmpNo X298.here hx rfl (hb hby at_118) rfl (tlt hn2).2.2.2 kk_) ?_
            refine FinH.by (fun tt_ kk_ => XS.aload X298.here hx rfl (hb hby at_121) rfl rfl (XS.iload X298.here hx rfl (hb hby at_123) rfl kk_)) ?_
            have z307 : n0 ≤ T298.heap.size := Nat.le_trans z297 p298_0.1
            obtain ⟨cq308, kq308, qa308, qb308, qc308⟩ := isOf hZ101 rfl p298_1
            obtain ⟨v308, _, ⟨T308, L308, k308, n308⟩, -, X308, ⟨Lc308, hQ308, l308, y308, z308⟩, st308⟩ := X298.virtualBack hx (y := y_25) (z := y_25) hown101 (mvT hZ101 (w_ hw 44 rfl)) (mvT hZ101 (w_ hw 45 rfl)) (notFace_of_selects (args := #[]) (mvT hZ101 (w_ hw 47 rfl))) (mvT hZ101 (w_ hw 47 rfl)) (mvT hZ101 (w_ hw 46 rfl)) (by decide) (backOf (W := 0) (rm_add2_2 l Z a0 hw [] a272 t278 k279 q2 (nar .char q0) (nar .char q1) T298.heap n0 z307 p298_1 p298_2 p298_3 p298_4 g274 g286 ne288) hZ101 (w_ hw 48 rfl) (w_ hw 30 rfl) (by decide) (by decide)) qa308 qc308 (g := (mkF m 125 #[.val (.int p1), .val (.int p2), .val (.int p3), .val (.int p4), .val (.int p5), .val (.int 2), .val (.int n), .val (.int mm), .val (.int q0), .val (.int q1), .val (.int q2), .val (.int q3), .val (.ref x102), .val (.ref a272), .val (.int (nar .boolean (own_z 0))), .unset, .unset] [(.int q2), (.ref a272)])) rfl (by rw [hml]; rfl) (Steps.refl _) (argsL := [(.int q2)]) (rest := []) (lenOf pd_415 rfl) rfl (by show 2 * 0 + _ ≤ _; exact Nat.le_of_eq rfl) (hb hby at_125) (fun _ _ => ⟨rfl, rfl, (by decide : 8 + 0 ≤ _), (by decide : 20 + 0 ≤ _)⟩)
            dsimp only [Pt.U, Pt.locs, Pt.cells, Pt.slots] at X308 l308 y308 z308 st308 hQ308
            subst l308 y308 z308
            obtain ⟨rfl, Nq308, p308_0, p308_1, p308_2, p308_3, p308_4⟩ := hQ308
            have N308_ := Fr.app N298_ Nq308
            refine FinH.byS st308 ?_
            have sf310 : Safe Z consts_1 T101.vm T289.heap a272 := (Safe.keep p289_0 (allS sf300 (allS sf292 all0)) ch280.1 sf300)
            have sf311 : Safe Z consts_1 T101.vm T298.heap t278 := (Safe.keep p298_0 (allS sf310 (allS sf301 all0)) ch290.1 sf301)
            have ch309 : CHr Z consts_1 s.vm h0 T101.vm T308.heap := ch299.trans (CHr.keep p308_0 (allS (Safe.exa hZ101.alike p298_1 (by decide) (by decide)) (allS sf311 all0)) ch299.1)
            refine FinH.by (fun tt_ kk_ => XS.iload X308.here hx rfl (hb hby at_128) rfl (XS.iconst X308.here hx rfl (hb hby at_130) kk_)) ?_
            show FinH _ _ _ _ _ _ _ _ _ (T308.setTop (mkF m 131 #[.val (.int p1), .val (.int p2), .val (.int p3), .val (.int p4), .val (.int p5), .val (.int 2), .val (.int n), .val (.int mm), .val (.int q0), .val (.int q1), .val (.int q2), .val (.int q3), .val (.ref x102), .val (.ref a272), .val (.int (nar .boolean (own_z 0))), .unset, .unset] [(.int 3), (.int n)]))
            by_cases hn3 : (3 : Int32) < n
            · refine FinH.by (fun tt_ kk_ => XS.icmpNo X308.here hx rfl (hb hby at_131) rfl (tlt hn3).2.2.2 kk_) ?_
              refine FinH.by (fun tt_ kk_ => XS.aload X308.here hx rfl (hb hby at_134) rfl rfl (XS.iload X308.here hx rfl (hb hby at_136) rfl kk_)) ?_
              have z318 : n0 ≤ T308.heap.size := Nat.le_trans z307 p308_0.1
              obtain ⟨cq319, kq319, qa319, qb319, qc319⟩ := isOf hZ101 rfl p308_1
              obtain ⟨v319, _, ⟨T319, L319, k319, n319⟩, -, X319, ⟨Lc319, hQ319, l319, y319, z319⟩, st319⟩ := X308.virtualBack hx (y := y_25) (z := y_25) hown101 (mvT hZ101 (w_ hw 44 rfl)) (mvT hZ101 (w_ hw 45 rfl)) (notFace_of_selects (args := #[]) (mvT hZ101 (w_ hw 47 rfl))) (mvT hZ101 (w_ hw 47 rfl)) (mvT hZ101 (w_ hw 46 rfl)) (by decide) (backOf (W := 0) (rm_add2_3 l Z a0 hw [] a272 t278 k279 q3 (nar .char q0) (nar .char q1) T308.heap n0 z318 p308_1 p308_2 p308_3 p308_4 g274 g286 ne288) hZ101 (w_ hw 48 rfl) (w_ hw 30 rfl) (by decide) (by decide)) qa319 qc319 (g := (mkF m 138 #[.val (.int p1), .val (.int p2), .val (.int p3), .val (.int p4), .val (.int p5), .val (.int 2), .val (.int n), .val (.int mm), .val (.int q0), .val (.int q1), .val (.int q2), .val (.int q3), .val (.ref x102), .val (.ref a272), .val (.int (nar .boolean (own_z 0))), .unset, .unset] [(.int q3), (.ref a272)])) rfl (by rw [hml]; rfl) (Steps.refl _) (argsL := [(.int q3)]) (rest := []) (lenOf pd_415 rfl) rfl (by show 2 * 0 + _ ≤ _; exact Nat.le_of_eq rfl) (hb hby at_138) (fun _ _ => ⟨rfl, rfl, (by decide : 8 + 0 ≤ _), (by decide : 20 + 0 ≤ _)⟩)
              dsimp only [Pt.U, Pt.locs, Pt.cells, Pt.slots] at X319 l319 y319 z319 st319 hQ319
              subst l319 y319 z319
              obtain ⟨rfl, Nq319, p319_0, p319_1, p319_2, p319_3, p319_4⟩ := hQ319
              have N319_ := Fr.app N308_ Nq319
              refine FinH.byS st319 ?_
              have sf321 : Safe Z consts_1 T101.vm T298.heap a272 := (Safe.keep p298_0 (allS sf310 (allS sf301 all0)) ch290.1 sf310)
              have sf322 : Safe Z consts_1 T101.vm T308.heap t278 := (Safe.keep p308_0 (allS sf321 (allS sf311 all0)) ch299.1 sf311)
              have ch320 : CHr Z consts_1 s.vm h0 T101.vm T319.heap := ch309.trans (CHr.keep p319_0 (allS (Safe.exa hZ101.alike p308_1 (by decide) (by decide)) (allS sf322 all0)) ch309.1)
              obtain rfl : n = (4 : Int32) := by rcases hn with rfl | rfl | rfl | rfl | rfl <;> first | rfl | (exact absurd hn3 (by decide))
              show FinH _ _ _ _ _ _ _ _ _ (T319.setTop (mkF m 141 #[.val (.int p1), .val (.int p2), .val (.int p3), .val (.int p4), .val (.int p5), .val (.int 2), .val (.int 4), .val (.int mm), .val (.int q0), .val (.int q1), .val (.int q2), .val (.int q3), .val (.ref x102), .val (.ref a272), .val (.int (nar .boolean (own_z 0))), .unset, .unset] []))
              have kp323 : Keep T101.heap h272 [] := (Keep.refl T101.heap []).ext E272
              have kp324 : Keep T101.heap T277.heap [] := kp323.trans p277_0 (allS (Or.inr (Nat.le_trans (Nat.le_refl _) (Nat.le_of_eq g272.symm))) all0)
              have kp325 : Keep T101.heap T289.heap [] := kp324.trans p289_0 (allS (Or.inr (Nat.le_trans (Nat.le_refl _) (Nat.le_of_eq g272.symm))) (allS (Or.inr (Nat.le_trans E272.1 p277_1)) all0))
              have kp326 : Keep T101.heap T298.heap [] := kp325.trans p298_0 (allS (Or.inr (Nat.le_trans (Nat.le_refl _) (Nat.le_of_eq g272.symm))) (allS (Or.inr (Nat.le_trans E272.1 p277_1)) all0))
              have kp327 : Keep T101.heap T308.heap [] := kp326.trans p308_0 (allS (Or.inr (Nat.le_trans (Nat.le_refl _) (Nat.le_of_eq g272.symm))) (allS (Or.inr (Nat.le_trans E272.1 p277_1)) all0))
              have kp328 : Keep T101.heap T319.heap [] := kp327.trans p319_0 (allS (Or.inr (Nat.le_trans (Nat.le_refl _) (Nat.le_of_eq g272.symm))) (allS (Or.inr (Nat.le_trans E272.1 p277_1)) all0))
              have sf329 : Safe Z consts_1 T101.vm T308.heap a272 := (Safe.keep p308_0 (allS sf321 (allS sf311 all0)) ch299.1 sf321)
              exact J141 T319 T319.heap _ T101.vm _ a272 t278 k279 (2 : Int32) (4 : Int32) (3 : Int32) [(.int (nar .char q0)), (.int (nar .char q1))] (X319.more (by decide) (by decide)) rfl N319_ kp328 hS101w (Nat.le_trans (Nat.le_refl _) (Nat.le_trans (Nat.le_trans (Nat.le_trans (Nat.le_trans (Nat.le_trans E272.1 p277_0.1) p289_0.1) p298_0.1) p308_0.1) p319_0.1)) hZ101 hown101 ((((((CHr.ext E272 ch108.1).trans (CHr.keep p277_0 (allS sf291 all0) ch273.1)).trans (CHr.keep p289_0 (allS sf300 (allS sf292 all0)) ch280.1)).trans (CHr.keep p298_0 (allS sf310 (allS sf301 all0)) ch290.1)).trans (CHr.keep p308_0 (allS sf321 (allS sf311 all0)) ch299.1)).trans (CHr.keep p319_0 (allS sf329 (allS sf322 all0)) ch309.1)) p319_1 p319_3 p319_2 p319_4 (Or.inr ⟨by decide, by decide⟩) (Or.inr ⟨fun q => hm.2 (by rw [← q]; decide), fun q => hm.2 (by rw [← q]; decide)⟩)
            · refine FinH.by (fun tt_ kk_ => XS.icmpYes X308.here hx rfl (pc0 := 131) (pc' := 141) rfl (hb hby at_131) rfl (flt hn3).2.2.2 (by decide) (by decide) kk_) ?_
              obtain rfl : n = (3 : Int32) := by rcases hn with rfl | rfl | rfl | rfl | rfl <;> first | rfl | (exact absurd hn3 (by decide)) | (exact absurd (by decide) hn3) | (exact absurd hn2 (by decide))
              show FinH _ _ _ _ _ _ _ _ _ (T308.setTop (mkF m 141 #[.val (.int p1), .val (.int p2), .val (.int p3), .val (.int p4), .val (.int p5), .val (.int 2), .val (.int 3), .val (.int mm), .val (.int q0), .val (.int q1), .val (.int q2), .val (.int q3), .val (.ref x102), .val (.ref a272), .val (.int (nar .boolean (own_z 0))), .unset, .unset] []))
              have kp312 : Keep T101.heap h272 [] := (Keep.refl T101.heap []).ext E272
              have kp313 : Keep T101.heap T277.heap [] := kp312.trans p277_0 (allS (Or.inr (Nat.le_trans (Nat.le_refl _) (Nat.le_of_eq g272.symm))) all0)
              have kp314 : Keep T101.heap T289.heap [] := kp313.trans p289_0 (allS (Or.inr (Nat.le_trans (Nat.le_refl _) (Nat.le_of_eq g272.symm))) (allS (Or.inr (Nat.le_trans E272.1 p277_1)) all0))
              have kp315 : Keep T101.heap T298.heap [] := kp314.trans p298_0 (allS (Or.inr (Nat.le_trans (Nat.le_refl _) (Nat.le_of_eq g272.symm))) (allS (Or.inr (Nat.le_trans E272.1 p277_1)) all0))
              have kp316 : Keep T101.heap T308.heap [] := kp315.trans p308_0 (allS (Or.inr (Nat.le_trans (Nat.le_refl _) (Nat.le_of_eq g272.symm))) (allS (Or.inr (Nat.le_trans E272.1 p277_1)) all0))
              have sf317 : Safe Z consts_1 T101.vm T298.heap a272 := (Safe.keep p298_0 (allS sf310 (allS sf301 all0)) ch290.1 sf310)
              exact J141 T308 T308.heap _ T101.vm _ a272 t278 k279 (2 : Int32) (3 : Int32) (3 : Int32) [(.int (nar .char q0)), (.int (nar .char q1))] (X308.more (by decide) (by decide)) rfl N308_ kp316 hS101w (Nat.le_trans (Nat.le_refl _) (Nat.le_trans (Nat.le_trans (Nat.le_trans (Nat.le_trans E272.1 p277_0.1) p289_0.1) p298_0.1) p308_0.1)) hZ101 hown101 (((((CHr.ext E272 ch108.1).trans (CHr.keep p277_0 (allS sf291 all0) ch273.1)).trans (CHr.keep p289_0 (allS sf300 (allS sf292 all0)) ch280.1)).trans (CHr.keep p298_0 (allS sf310 (allS sf301 all0)) ch290.1)).trans (CHr.keep p308_0 (allS sf317 (allS sf311 all0)) ch299.1)) p308_1 p308_3 p308_2 p308_4 (Or.inr ⟨by decide, by decide⟩) (Or.inr ⟨fun q => hm.2 (by rw [← q]; decide), fun q => hm.2 (by rw [← q]; decide)⟩)
          · refine FinH.by (fun tt_ kk_ => XS.icmpYes X298.here hx rfl (pc0 := 118) (pc' := 128) rfl (hb hby at_118) rfl (flt hn2).2.2.2 (by decide) (by decide) kk_) ?_
            obtain rfl : n = (2 : Int32) := by rcases hn with rfl | rfl | rfl | rfl | rfl <;> first | rfl | (exact absurd hn2 (by decide)) | (exact absurd (by decide) hn2) | (exact absurd hn1 (by decide))
            refine FinH.by (fun tt_ kk_ => XS.iload X298.here hx rfl (hb hby at_128) rfl (XS.iconst X298.here hx rfl (hb hby at_130) kk_)) ?_
            show FinH _ _ _ _ _ _ _ _ _ (T298.setTop (mkF m 131 #[.val (.int p1), .val (.int p2), .val (.int p3), .val (.int p4), .val (.int p5), .val (.int 2), .val (.int 2), .val (.int mm), .val (.int q0), .val (.int q1), .val (.int q2), .val (.int q3), .val (.ref x102), .val (.ref a272), .val (.int (nar .boolean (own_z 0))), .unset, .unset] [(.int 3), (.int 2)]))
            refine FinH.by (fun tt_ kk_ => XS.icmpYes X298.here hx rfl (pc0 := 131) (pc' := 141) rfl (hb hby at_131) rfl (flt (by decide : ¬ (3 : Int32) < (2 : Int32))).2.2.2 (by decide) (by decide) kk_) ?_
            show FinH _ _ _ _ _ _ _ _ _ (T298.setTop (mkF m 141 #[.val (.int p1), .val (.int p2), .val (.int p3), .val (.int p4), .val (.int p5), .val (.int 2), .val (.int 2), .val (.int mm), .val (.int q0), .val (.int q1), .val (.int q2), .val (.int q3), .val (.ref x102), .val (.ref a272), .val (.int (nar .boolean (own_z 0))), .unset, .unset] []))
            have kp302 : Keep T101.heap h272 [] := (Keep.refl T101.heap []).ext E272
            have kp303 : Keep T101.heap T277.heap [] := kp302.trans p277_0 (allS (Or.inr (Nat.le_trans (Nat.le_refl _) (Nat.le_of_eq g272.symm))) all0)
            have kp304 : Keep T101.heap T289.heap [] := kp303.trans p289_0 (allS (Or.inr (Nat.le_trans (Nat.le_refl _) (Nat.le_of_eq g272.symm))) (allS (Or.inr (Nat.le_trans E272.1 p277_1)) all0))
            have kp305 : Keep T101.heap T298.heap [] := kp304.trans p298_0 (allS (Or.inr (Nat.le_trans (Nat.le_refl _) (Nat.le_of_eq g272.symm))) (allS (Or.inr (Nat.le_trans E272.1 p277_1)) all0))
            have sf306 : Safe Z consts_1 T101.vm T289.heap a272 := (Safe.keep p289_0 (allS sf300 (allS sf292 all0)) ch280.1 sf300)
            exact J141 T298 T298.heap _ T101.vm _ a272 t278 k279 (2 : Int32) (2 : Int32) (2 : Int32) [(.int (nar .char q0)), (.int (nar .char q1))] (X298.more (by decide) (by decide)) rfl N298_ kp305 hS101w (Nat.le_trans (Nat.le_refl _) (Nat.le_trans (Nat.le_trans (Nat.le_trans E272.1 p277_0.1) p289_0.1) p298_0.1)) hZ101 hown101 ((((CHr.ext E272 ch108.1).trans (CHr.keep p277_0 (allS sf291 all0) ch273.1)).trans (CHr.keep p289_0 (allS sf300 (allS sf292 all0)) ch280.1)).trans (CHr.keep p298_0 (allS sf306 (allS sf301 all0)) ch290.1)) p298_1 p298_3 p298_2 p298_4 (Or.inr ⟨by decide, by decide⟩) (if hmn : mm = (2 : Int32) then Or.inl ⟨hmn.symm, hmn.symm, by rw [hmn, own_pre2]; rfl, by rw [hmn, own_pre2]; exact Nat.le_of_ble_eq_true rfl⟩ else Or.inr ⟨fun q => hmn q.symm, fun q => hmn q.symm⟩)
        · refine FinH.by (fun tt_ kk_ => XS.icmpYes X289.here hx rfl (pc0 := 105) (pc' := 115) rfl (hb hby at_105) rfl (flt hn1).2.2.2 (by decide) (by decide) kk_) ?_
          obtain rfl : n = (1 : Int32) := by rcases hn with rfl | rfl | rfl | rfl | rfl <;> first | rfl | (exact absurd hn1 (by decide)) | (exact absurd (by decide) hn1) | (exact absurd hn0 (by decide))
          refine FinH.by (fun tt_ kk_ => XS.iload X289.here hx rfl (hb hby at_115) rfl (XS.iconst X289.here hx rfl (hb hby at_117) kk_)) ?_
          show FinH _ _ _ _ _ _ _ _ _ (T289.setTop (mkF m 118 #[.val (.int p1), .val (.int p2), .val (.int p3), .val (.int p4), .val (.int p5), .val (.int 2), .val (.int 1), .val (.int mm), .val (.int q0), .val (.int q1), .val (.int q2), .val (.int q3), .val (.ref x102), .val (.ref a272), .val (.int (nar .boolean (own_z 0))), .unset, .unset] [(.int 2), (.int 1)]))
          refine FinH.by (fun tt_ kk_ => XS.icmpYes X289.here hx rfl (pc0 := 118) (pc' := 128) rfl (hb hby at_118) rfl (flt (by decide : ¬ (2 : Int32) < (1 : Int32))).2.2.2 (by decide) (by decide) kk_) ?_
          refine FinH.by (fun tt_ kk_ => XS.iload X289.here hx rfl (hb hby at_128) rfl (XS.iconst X289.here hx rfl (hb hby at_130) kk_)) ?_
          show FinH _ _ _ _ _ _ _ _ _ (T289.setTop (mkF m 131 #[.val (.int p1), .val (.int p2), .val (.int p3), .val (.int p4), .val (.int p5), .val (.int 2), .val (.int 1), .val (.int mm), .val (.int q0), .val (.int q1), .val (.int q2), .val (.int q3), .val (.ref x102), .val (.ref a272), .val (.int (nar .boolean (own_z 0))), .unset, .unset] [(.int 3), (.int 1)]))
          refine FinH.by (fun tt_ kk_ => XS.icmpYes X289.here hx rfl (pc0 := 131) (pc' := 141) rfl (hb hby at_131) rfl (flt (by decide : ¬ (3 : Int32) < (1 : Int32))).2.2.2 (by decide) (by decide) kk_) ?_
          show FinH _ _ _ _ _ _ _ _ _ (T289.setTop (mkF m 141 #[.val (.int p1), .val (.int p2), .val (.int p3), .val (.int p4), .val (.int p5), .val (.int 2), .val (.int 1), .val (.int mm), .val (.int q0), .val (.int q1), .val (.int q2), .val (.int q3), .val (.ref x102), .val (.ref a272), .val (.int (nar .boolean (own_z 0))), .unset, .unset] []))
          have kp293 : Keep T101.heap h272 [] := (Keep.refl T101.heap []).ext E272
          have kp294 : Keep T101.heap T277.heap [] := kp293.trans p277_0 (allS (Or.inr (Nat.le_trans (Nat.le_refl _) (Nat.le_of_eq g272.symm))) all0)
          have kp295 : Keep T101.heap T289.heap [] := kp294.trans p289_0 (allS (Or.inr (Nat.le_trans (Nat.le_refl _) (Nat.le_of_eq g272.symm))) (allS (Or.inr (Nat.le_trans E272.1 p277_1)) all0))
          have sf296 : Safe Z consts_1 T101.vm T277.heap a272 := (Safe.keep p277_0 (allS sf291 all0) ch273.1 sf291)
          exact J141 T289 T289.heap _ T101.vm _ a272 t278 k279 (2 : Int32) (1 : Int32) (1 : Int32) [(.int (nar .char q0)), (.int (0 : Int32))] (X289.more (by decide) (by decide)) rfl N289_ kp295 hS101w (Nat.le_trans (Nat.le_refl _) (Nat.le_trans (Nat.le_trans E272.1 p277_0.1) p289_0.1)) hZ101 hown101 (((CHr.ext E272 ch108.1).trans (CHr.keep p277_0 (allS sf291 all0) ch273.1)).trans (CHr.keep p289_0 (allS sf296 (allS sf292 all0)) ch280.1)) p289_1 p289_3 p289_2 p289_4 (Or.inr ⟨by decide, by decide⟩) (if hmn : mm = (1 : Int32) then Or.inl ⟨hmn.symm, hmn.symm, by rw [hmn, own_pre1]; rfl, by rw [hmn, own_pre1]; exact Nat.le_of_ble_eq_true rfl⟩ else Or.inr ⟨fun q => hmn q.symm, fun q => hmn q.symm⟩)
      · refine FinH.by (fun tt_ kk_ => XS.ifYes X282.here hx rfl (pc0 := 92) (pc' := 102) rfl (hb hby at_92) rfl ((if0 _ _).trans (flt hn0).2.2.2) (by decide) (by decide) kk_) ?_
        obtain rfl : n = (0 : Int32) := by rcases hn with rfl | rfl | rfl | rfl | rfl <;> first | rfl | (exact absurd hn0 (by decide)) | (exact absurd (by decide) hn0)
        refine FinH.by (fun tt_ kk_ => XS.iload X282.here hx rfl (hb hby at_102) rfl (XS.iconst X282.here hx rfl (hb hby at_104) kk_)) ?_
        show FinH _ _ _ _ _ _ _ _ _ (T282.setTop (mkF m 105 #[.val (.int p1), .val (.int p2), .val (.int p3), .val (.int p4), .val (.int p5), .val (.int 2), .val (.int 0), .val (.int mm), .val (.int q0), .val (.int q1), .val (.int q2), .val (.int q3), .val (.ref x102), .val (.ref a272), .val (.int (nar .boolean (own_z 0))), .unset, .unset] [(.int 1), (.int 0)]))
        refine FinH.by (fun tt_ kk_ => XS.icmpYes X282.here hx rfl (pc0 := 105) (pc' := 115) rfl (hb hby at_105) rfl (flt (by decide : ¬ (1 : Int32) < (0 : Int32))).2.2.2 (by decide) (by decide) kk_) ?_
        refine FinH.by (fun tt_ kk_ => XS.iload X282.here hx rfl (hb hby at_115) rfl (XS.iconst X282.here hx rfl (hb hby at_117) kk_)) ?_
        show FinH _ _ _ _ _ _ _ _ _ (T282.setTop (mkF m 118 #[.val (.int p1), .val (.int p2), .val (.int p3), .val (.int p4), .val (.int p5), .val (.int 2), .val (.int 0), .val (.int mm), .val (.int q0), .val (.int q1), .val (.int q2), .val (.int q3), .val (.ref x102), .val (.ref a272), .val (.int (nar .boolean (own_z 0))), .unset, .unset] [(.int 2), (.int 0)]))
        refine FinH.by (fun tt_ kk_ => XS.icmpYes X282.here hx rfl (pc0 := 118) (pc' := 128) rfl (hb hby at_118) rfl (flt (by decide : ¬ (2 : Int32) < (0 : Int32))).2.2.2 (by decide) (by decide) kk_) ?_
        refine FinH.by (fun tt_ kk_ => XS.iload X282.here hx rfl (hb hby at_128) rfl (XS.iconst X282.here hx rfl (hb hby at_130) kk_)) ?_
        show FinH _ _ _ _ _ _ _ _ _ (T282.setTop (mkF m 131 #[.val (.int p1), .val (.int p2), .val (.int p3), .val (.int p4), .val (.int p5), .val (.int 2), .val (.int 0), .val (.int mm), .val (.int q0), .val (.int q1), .val (.int q2), .val (.int q3), .val (.ref x102), .val (.ref a272), .val (.int (nar .boolean (own_z 0))), .unset, .unset] [(.int 3), (.int 0)]))
        refine FinH.by (fun tt_ kk_ => XS.icmpYes X282.here hx rfl (pc0 := 131) (pc' := 141) rfl (hb hby at_131) rfl (flt (by decide : ¬ (3 : Int32) < (0 : Int32))).2.2.2 (by decide) (by decide) kk_) ?_
        show FinH _ _ _ _ _ _ _ _ _ (T282.setTop (mkF m 141 #[.val (.int p1), .val (.int p2), .val (.int p3), .val (.int p4), .val (.int p5), .val (.int 2), .val (.int 0), .val (.int mm), .val (.int q0), .val (.int q1), .val (.int q2), .val (.int q3), .val (.ref x102), .val (.ref a272), .val (.int (nar .boolean (own_z 0))), .unset, .unset] []))
        have kp283 : Keep T101.heap h272 [] := (Keep.refl T101.heap []).ext E272
        have kp284 : Keep T101.heap T277.heap [] := kp283.trans p277_0 (allS (Or.inr (Nat.le_trans (Nat.le_refl _) (Nat.le_of_eq g272.symm))) all0)
        have sf285 : Safe Z consts_1 T101.vm h272 a272 := (Safe.ext E272 ch108.1 (Safe.new (Nat.le_of_eq g272.symm)))
        exact J141 T282 T277.heap _ T101.vm _ a272 t278 k279 (2 : Int32) (0 : Int32) (0 : Int32) [(.int (0 : Int32)), (.int (0 : Int32))] (X282.more (by decide) (by decide)) e282 N282_ kp284 hS101w (Nat.le_trans (Nat.le_refl _) (Nat.le_trans E272.1 p277_0.1)) hZ101 hown101 ((CHr.ext E272 ch108.1).trans (CHr.keep p277_0 (allS sf285 all0) ch273.1)) p277_2 p277_4 p277_3 p277_5 (Or.inl ⟨rfl, rfl⟩) (if hmn : mm = (0 : Int32) then Or.inl ⟨hmn.symm, hmn.symm, by rw [hmn, own_pre0]; rfl, by rw [hmn, own_pre0]; exact Nat.le_of_ble_eq_true rfl⟩ else Or.inr ⟨fun q => hmn q.symm, fun q => hmn q.symm⟩)
    · obtain ⟨T330, h330, X330, e330, E330, A330, D330, -, st330⟩ := newO X101w hx hZ101 hown101 (w_ hw 28 rfl) (w_ hw 29 rfl) (w_ hw 30 rfl) rfl (g := (mkF m 72 #[.val (.int p1), .val (.int p2), .val (.int p3), .val (.int p4), .val (.int p5), .val (.int 3), .val (.int n), .val (.int mm), .val (.int q0), .val (.int q1), .val (.int q2), .val (.int q3), .val (.ref x102), .unset, .unset, .unset, .unset] [])) rfl (hb hby at_72) (by decide) (by decide)
      obtain ⟨a330, g330⟩ : ∃ z, z = T101.heap.size := ⟨_, rfl⟩
      rw [← g330] at A330 D330 st330
      refine FinH.by (fun tt_ kk_ => st330 tt_ kk_) ?_
      have ch331 : CHr Z consts_1 s.vm h0 T101.vm h330 := ch108.trans (CHr.ext E330 ch108.1)
      refine FinH.by (fun tt_ kk_ => XS.dup X330.here hx rfl (hb hby at_75) rfl rfl (XS.iload X330.here hx rfl (hb hby at_76) rfl kk_)) ?_
      have z333 : n0 ≤ T101.heap.size := Nat.le_trans Z0 p101_0.1
      have g332 : n0 ≤ a330 := Nat.le_trans z333 (Nat.le_of_eq g330.symm)
      have z334 : n0 ≤ h330.size := Nat.le_trans Z0 (Nat.le_trans p101_0.1 E330.1)
      obtain ⟨v335, _, ⟨T335, L335, k335, n335⟩, -, X335, ⟨Lc335, hQ335, l335, y335, z335⟩, st335⟩ := X330.specialBack hx (y := y_24) rfl hown101 (mvT hZ101 (w_ hw 31 rfl)) (mvT hZ101 (w_ hw 32 rfl)) (mvT hZ101 (w_ hw 33 rfl)) (by decide) (backOf (W := 1) (rm_wbi3 l Z a0 hw [] a330 h330 n0 z334 A330 (D330 (Or.inr (w_ hw 36 rfl)) (ty := (.array .char)) (by decide) : Fld Z h330 a330 "com/example/colonnade/colonnade/WordBuffer" "chars" "[C" .null) (D330 (Or.inl (w_ hw 43 rfl)) (ty := .int) (by decide) : Fld Z h330 a330 "com/example/colonnade/colonnade/WordBuffer" "length" "I" (.int (0 : Int32))) g332) hZ101 (w_ hw 33 rfl) (w_ hw 30 rfl) (by decide) (by decide)) (g := (mkF m 78 #[.val (.int p1), .val (.int p2), .val (.int p3), .val (.int p4), .val (.int p5), .val (.int 3), .val (.int n), .val (.int mm), .val (.int q0), .val (.int q1), .val (.int q2), .val (.int q3), .val (.ref x102), .unset, .unset, .unset, .unset] [(.int 3), (.ref a330), (.ref a330)])) rfl (by rw [hml]; rfl) (Steps.refl _) (a := a330) (argsL := [(.int 3)]) (rest := [(.ref a330)]) (lenOf pd_414 rfl) rfl (by show 2 * 0 + _ ≤ _; exact Nat.le_of_eq rfl) (hb hby at_78) (fun _ _ => ⟨rfl, e330, (by decide : 7 + 1 ≤ _), (by decide : 18 + 3 ≤ _)⟩)
      dsimp only [Pt.U, Pt.locs, Pt.cells, Pt.slots] at X335 l335 y335 z335 st335 hQ335
      subst l335 y335 z335
      obtain ⟨t336, k337, rfl, Nq335, p335_0, p335_1, p335_2, p335_3, p335_4, p335_5⟩ := hQ335
      have N335_ := Fr.app N101_ Nq335
      refine FinH.byS st335 ?_
      have ch338 : CHr Z consts_1 s.vm h0 T101.vm T335.heap := ch331.trans (CHr.keep p335_0 (allS (Safe.exa hZ101.alike A330 (by decide) (by decide)) all0) ch331.1)
      refine FinH.by (fun tt_ kk_ => XS.astore X335.here hx rfl (hb hby at_81) rfl rfl (l' := #[.val (.int p1), .val (.int p2), .val (.int p3), .val (.int p4), .val (.int p5), .val (.int 3), .val (.int n), .val (.int mm), .val (.int q0), .val (.int q1), .val (.int q2), .val (.int q3), .val (.ref x102), .val (.ref a330), .unset, .unset, .unset]) rfl (XS.aload X335.here hx rfl (hb hby at_83) rfl rfl kk_)) ?_
      have z339 : n0 ≤ T335.heap.size := Nat.le_trans z334 p335_0.1
      obtain ⟨cq340, kq340, qa340, qb340, qc340⟩ := isOf hZ101 rfl p335_2
      obtain ⟨v340, _, ⟨T340, L340, k340, n340⟩, -, X340, ⟨Lc340, hQ340, l340, y340, z340⟩, st340⟩ := X335.virtualBack hx (y := y_20) (z := y_20) hown101 (mvT hZ101 (w_ hw 37 rfl)) (mvT hZ101 (w_ hw 38 rfl)) (notFace_of_selects (args := #[]) (mvT hZ101 (w_ hw 40 rfl))) (mvT hZ101 (w_ hw 40 rfl)) (mvT hZ101 (w_ hw 39 rfl)) (by decide) (backOf (W := 0) (rm_emp l Z a0 hw [] a330 (0 : Int32) T335.heap n0 z339 p335_4) hZ101 (w_ hw 41 rfl) (w_ hw 30 rfl) (by decide) (by decide)) qa340 qc340 (g := (mkF m 85 #[.val (.int p1), .val (.int p2), .val (.int p3), .val (.int p4), .val (.int p5), .val (.int 3), .val (.int n), .val (.int mm), .val (.int q0), .val (.int q1), .val (.int q2), .val (.int q3), .val (.ref x102), .val (.ref a330), .unset, .unset, .unset] [(.ref a330)])) rfl (by rw [hml]; rfl) (Steps.refl _) (argsL := []) (rest := []) (lenOf pd_84 rfl) rfl (by show 2 * 0 + _ ≤ _; exact Nat.le_of_eq rfl) (hb hby at_85) (fun _ _ => ⟨rfl, rfl, (by decide : 8 + 0 ≤ _), (by decide : 21 + 0 ≤ _)⟩)
      dsimp only [Pt.U, Pt.locs, Pt.cells, Pt.slots] at X340 l340 y340 z340 st340 hQ340
      subst l340 y340 z340
      obtain ⟨rfl, Nq340, e340_⟩ := hQ340
      have N340_ := Fr.app N335_ Nq340
      refine FinH.byS st340 ?_
      have e340 := e340_
      refine FinH.by (fun tt_ kk_ => XS.istore X340.here hx rfl (hb hby at_88) rfl (l' := #[.val (.int p1), .val (.int p2), .val (.int p3), .val (.int p4), .val (.int p5), .val (.int 3), .val (.int n), .val (.int mm), .val (.int q0), .val (.int q1), .val (.int q2), .val (.int q3), .val (.ref x102), .val (.ref a330), .val (.int (nar .boolean (own_z 0))), .unset, .unset]) rfl (XS.iload X340.here hx rfl (hb hby at_90) rfl kk_)) ?_
      show FinH _ _ _ _ _ _ _ _ _ (T340.setTop (mkF m 92 #[.val (.int p1), .val (.int p2), .val (.int p3), .val (.int p4), .val (.int p5), .val (.int 3), .val (.int n), .val (.int mm), .val (.int q0), .val (.int q1), .val (.int q2), .val (.int q3), .val (.ref x102), .val (.ref a330), .val (.int (nar .boolean (own_z 0))), .unset, .unset] [(.int n)]))
      by_cases hn0 : (0 : Int32) < n
      · refine FinH.by (fun tt_ kk_ => XS.ifNo X340.here hx rfl (hb hby at_92) rfl ((if0 _ _).trans (tlt hn0).2.2.2) kk_) ?_
        refine FinH.by (fun tt_ kk_ => XS.aload X340.here hx rfl (hb hby at_95) rfl rfl (XS.iload X340.here hx rfl (hb hby at_97) rfl kk_)) ?_
        have z345 : n0 ≤ h330.size := Nat.le_trans Z0 (Nat.le_trans p101_0.1 E330.1)
        have g344 : n0 ≤ t336 := Nat.le_trans z345 p335_1
        have ne346 : a330 ≠ t336 := Nat.ne_of_lt (Nat.lt_of_lt_of_le A330.lt p335_1)
        obtain ⟨cq347, kq347, qa347, qb347, qc347⟩ := isOf hZ101 e340 p335_2
        obtain ⟨v347, _, ⟨T347, L347, k347, n347⟩, -, X347, ⟨Lc347, hQ347, l347, y347, z347⟩, st347⟩ := X340.virtualBack hx (y := y_25) (z := y_25) hown101 (mvT hZ101 (w_ hw 44 rfl)) (mvT hZ101 (w_ hw 45 rfl)) (notFace_of_selects (args := #[]) (mvT hZ101 (w_ hw 47 rfl))) (mvT hZ101 (w_ hw 47 rfl)) (mvT hZ101 (w_ hw 46 rfl)) (by decide) (backOf (W := 0) (rm_add3_0 l Z a0 hw [] a330 t336 k337 q0 (0 : Int32) (0 : Int32) (0 : Int32) T335.heap n0 z339 p335_2 p335_3 p335_4 p335_5 g332 g344 ne346) hZ101 (w_ hw 48 rfl) (w_ hw 30 rfl) (by decide) (by decide)) qa347 qc347 (g := (mkF m 99 #[.val (.int p1), .val (.int p2), .val (.int p3), .val (.int p4), .val (.int p5), .val (.int 3), .val (.int n), .val (.int mm), .val (.int q0), .val (.int q1), .val (.int q2), .val (.int q3), .val (.ref x102), .val (.ref a330), .val (.int (nar .boolean (own_z 0))), .unset, .unset] [(.int q0), (.ref a330)])) rfl (by rw [hml]; rfl) (Steps.refl _) (argsL := [(.int q0)]) (rest := []) (lenOf pd_415 rfl) rfl (by show 2 * 0 + _ ≤ _; exact Nat.le_of_eq rfl) (hb hby at_99) (fun _ _ => ⟨rfl, e340, (by decide : 8 + 0 ≤ _), (by decide : 21 + 0 ≤ _)⟩)
        dsimp only [Pt.U, Pt.locs, Pt.cells, Pt.slots] at X347 l347 y347 z347 st347 hQ347
        subst l347 y347 z347
        obtain ⟨rfl, Nq347, p347_0, p347_1, p347_2, p347_3, p347_4⟩ := hQ347
        have N347_ := Fr.app N340_ Nq347
        refine FinH.byS st347 ?_
        have sf349 : Safe Z consts_1 T101.vm h330 a330 := (Safe.ext E330 ch108.1 (Safe.new (Nat.le_of_eq g330.symm)))
        have sf350 : Safe Z consts_1 T101.vm T335.heap t336 := (Safe.keep p335_0 (allS sf349 all0) ch331.1 (Safe.new p335_1))
        have ch348 : CHr Z consts_1 s.vm h0 T101.vm T347.heap := ch338.trans (CHr.keep p347_0 (allS (Safe.exa hZ101.alike p335_2 (by decide) (by decide)) (allS sf350 all0)) ch338.1)
        refine FinH.by (fun tt_ kk_ => XS.iload X347.here hx rfl (hb hby at_102) rfl (XS.iconst X347.here hx rfl (hb hby at_104) kk_)) ?_
        show FinH _ _ _ _ _ _ _ _ _ (T347.setTop (mkF m 105 #[.val (.int p1), .val (.int p2), .val (.int p3), .val (.int p4), .val (.int p5), .val (.int 3), .val (.int n), .val (.int mm), .val (.int q0), .val (.int q1), .val (.int q2), .val (.int q3), .val (.ref x102), .val (.ref a330), .val (.int (nar .boolean (own_z 0))), .unset, .unset] [(.int 1), (.int n)]))
        by_cases hn1 : (1 : Int32) < n
        · refine FinH.by (fun tt_ kk_ => XS.icmpNo X347.here hx rfl (hb hby at_105) rfl (tlt hn1).2.2.2 kk_) ?_
          refine FinH.by (fun tt_ kk_ => XS.aload X347.here hx rfl (hb hby at_108) rfl rfl (XS.iload X347.here hx rfl (hb hby at_110) rfl kk_)) ?_
          have z355 : n0 ≤ T347.heap.size := Nat.le_trans z339 p347_0.1
          obtain ⟨cq356, kq356, qa356, qb356, qc356⟩ := isOf hZ101 rfl p347_1
          obtain ⟨v356, _, ⟨T356, L356, k356, n356⟩, -, X356, ⟨Lc356, hQ356, l356, y356, z356⟩, st356⟩ := X347.virtualBack hx (y := y_25) (z := y_25) hown101 (mvT hZ101 (w_ hw 44 rfl)) (mvT hZ101 (w_ hw 45 rfl)) (notFace_of_selects (args := #[]) (mvT hZ101 (w_ hw 47 rfl))) (mvT hZ101 (w_ hw 47 rfl)) (mvT hZ101 (w_ hw 46 rfl)) (by decide) (backOf (W := 0) (rm_add3_1 l Z a0 hw [] a330 t336 k337 q1 (nar .char q0) (0 : Int32) (0 : Int32) T347.heap n0 z355 p347_1 p347_2 p347_3 p347_4 g332 g344 ne346) hZ101 (w_ hw 48 rfl) (w_ hw 30 rfl) (by decide) (by decide)) qa356 qc356 (g := (mkF m 112 #[.val (.int p1), .val (.int p2), .val (.int p3), .val (.int p4), .val (.int p5), .val (.int 3), .val (.int n), .val (.int mm), .val (.int q0), .val (.int q1), .val (.int q2), .val (.int q3), .val (.ref x102), .val (.ref a330), .val (.int (nar .boolean (own_z 0))), .unset, .unset] [(.int q1), (.ref a330)])) rfl (by rw [hml]; rfl) (Steps.refl _) (argsL := [(.int q1)]) (rest := []) (lenOf pd_415 rfl) rfl (by show 2 * 0 + _ ≤ _; exact Nat.le_of_eq rfl) (hb hby at_112) (fun _ _ => ⟨rfl, rfl, (by decide : 8 + 0 ≤ _), (by decide : 21 + 0 ≤ _)⟩)
          dsimp only [Pt.U, Pt.locs, Pt.cells, Pt.slots] at X356 l356 y356 z356 st356 hQ356
          subst l356 y356 z356
          obtain ⟨rfl, Nq356, p356_0, p356_1, p356_2, p356_3, p356_4⟩ := hQ356
          have N356_ := Fr.app N347_ Nq356
          refine FinH.byS st356 ?_
          have sf358 : Safe Z consts_1 T101.vm T335.heap a330 := (Safe.keep p335_0 (allS sf349 all0) ch331.1 sf349)
          have sf359 : Safe Z consts_1 T101.vm T347.heap t336 := (Safe.keep p347_0 (allS sf358 (allS sf350 all0)) ch338.1 sf350)
          have ch357 : CHr Z consts_1 s.vm h0 T101.vm T356.heap := ch348.trans (CHr.keep p356_0 (allS (Safe.exa hZ101.alike p347_1 (by decide) (by decide)) (allS sf359 all0)) ch348.1)
          refine FinH.by (fun tt_ kk_ => XS.iload X356.here hx rfl (hb hby at_115) rfl (XS.iconst X356.here hx rfl (hb hby at_117) kk_)) ?_
          show FinH _ _ _ _ _ _ _ _ _ (T356.setTop (mkF m 118 #[.val (.int p1), .val (.int p2), .val (.int p3), .val (.int p4), .val (.int p5), .val (.int 3), .val (.int n), .val (.int mm), .val (.int q0), .val (.int q1), .val (.int q2), .val (.int q3), .val (.ref x102), .val (.ref a330), .val (.int (nar .boolean (own_z 0))), .unset, .unset] [(.int 2), (.int n)]))
          by_cases hn2 : (2 : Int32) < n
          · refine FinH.by (fun tt_ kk_ => XS.icmpNo X356.here hx rfl (hb hby at_118) rfl (tlt hn2).2.2.2 kk_) ?_
            refine FinH.by (fun tt_ kk_ => XS.aload X356.here hx rfl (hb hby at_121) rfl rfl (XS.iload X356.here hx rfl (hb hby at_123) rfl kk_)) ?_
            have z365 : n0 ≤ T356.heap.size := Nat.le_trans z355 p356_0.1
            obtain ⟨cq366, kq366, qa366, qb366, qc366⟩ := isOf hZ101 rfl p356_1
            obtain ⟨v366, _, ⟨T366, L366, k366, n366⟩, -, X366, ⟨Lc366, hQ366, l366, y366, z366⟩, st366⟩ := X356.virtualBack hx (y := y_25) (z := y_25) hown101 (mvT hZ101 (w_ hw 44 rfl)) (mvT hZ101 (w_ hw 45 rfl)) (notFace_of_selects (args := #[]) (mvT hZ101 (w_ hw 47 rfl))) (mvT hZ101 (w_ hw 47 rfl)) (mvT hZ101 (w_ hw 46 rfl)) (by decide) (backOf (W := 0) (rm_add3_2 l Z a0 hw [] a330 t336 k337 q2 (nar .char q0) (nar .char q1) (0 : Int32) T356.heap n0 z365 p356_1 p356_2 p356_3 p356_4 g332 g344 ne346) hZ101 (w_ hw 48 rfl) (w_ hw 30 rfl) (by decide) (by decide)) qa366 qc366 (g := (mkF m 125 #[.val (.int p1), .val (.int p2), .val (.int p3), .val (.int p4), .val (.int p5), .val (.int 3), .val (.int n), .val (.int mm), .val (.int q0), .val (.int q1), .val (.int q2), .val (.int q3), .val (.ref x102), .val (.ref a330), .val (.int (nar .boolean (own_z 0))), .unset, .unset] [(.int q2), (.ref a330)])) rfl (by rw [hml]; rfl) (Steps.refl _) (argsL := [(.int q2)]) (rest := []) (lenOf pd_415 rfl) rfl (by show 2 * 0 + _ ≤ _; exact Nat.le_of_eq rfl) (hb hby at_125) (fun _ _ => ⟨rfl, rfl, (by decide : 8 + 0 ≤ _), (by decide : 21 + 0 ≤ _)⟩)
            dsimp only [Pt.U, Pt.locs, Pt.cells, Pt.slots] at X366 l366 y366 z366 st366 hQ366
            subst l366 y366 z366
            obtain ⟨rfl, Nq366, p366_0, p366_1, p366_2, p366_3, p366_4⟩ := hQ366
            have N366_ := Fr.app N356_ Nq366
            refine FinH.byS st366 ?_
            have sf368 : Safe Z consts_1 T101.vm T347.heap a330 := (Safe.keep p347_0 (allS sf358 (allS sf350 all0)) ch338.1 sf358)
            have sf369 : Safe Z consts_1 T101.vm T356.heap t336 := (Safe.keep p356_0 (allS sf368 (allS sf359 all0)) ch348.1 sf359)
            have ch367 : CHr Z consts_1 s.vm h0 T101.vm T366.heap := ch357.trans (CHr.keep p366_0 (allS (Safe.exa hZ101.alike p356_1 (by decide) (by decide)) (allS sf369 all0)) ch357.1)
            refine FinH.by (fun tt_ kk_ => XS.iload X366.here hx rfl (hb hby at_128) rfl (XS.iconst X366.here hx rfl (hb hby at_130) kk_)) ?_
            show FinH _ _ _ _ _ _ _ _ _ (T366.setTop (mkF m 131 #[.val (.int p1), .val (.int p2), .val (.int p3), .val (.int p4), .val (.int p5), .val (.int 3), .val (.int n), .val (.int mm), .val (.int q0), .val (.int q1), .val (.int q2), .val (.int q3), .val (.ref x102), .val (.ref a330), .val (.int (nar .boolean (own_z 0))), .unset, .unset] [(.int 3), (.int n)]))
            by_cases hn3 : (3 : Int32) < n
            · refine FinH.by (fun tt_ kk_ => XS.icmpNo X366.here hx rfl (hb hby at_131) rfl (tlt hn3).2.2.2 kk_) ?_
              refine FinH.by (fun tt_ kk_ => XS.aload X366.here hx rfl (hb hby at_134) rfl rfl (XS.iload X366.here hx rfl (hb hby at_136) rfl kk_)) ?_
              have z376 : n0 ≤ T366.heap.size := Nat.le_trans z365 p366_0.1
              obtain ⟨cq377, kq377, qa377, qb377, qc377⟩ := isOf hZ101 rfl p366_1
              obtain ⟨v377, _, ⟨T377, L377, k377, n377⟩, -, X377, ⟨Lc377, hQ377, l377, y377, z377⟩, st377⟩ := X366.virtualBack hx (y := y_25) (z := y_25) hown101 (mvT hZ101 (w_ hw 44 rfl)) (mvT hZ101 (w_ hw 45 rfl)) (notFace_of_selects (args := #[]) (mvT hZ101 (w_ hw 47 rfl))) (mvT hZ101 (w_ hw 47 rfl)) (mvT hZ101 (w_ hw 46 rfl)) (by decide) (backOf (W := 0) (rm_add3_3 l Z a0 hw [] a330 t336 k337 q3 (nar .char q0) (nar .char q1) (nar .char q2) T366.heap n0 z376 p366_1 p366_2 p366_3 p366_4 g332 g344 ne346) hZ101 (w_ hw 48 rfl) (w_ hw 30 rfl) (by decide) (by decide)) qa377 qc377 (g := (mkF m 138 #[.val (.int p1), .val (.int p2), .val (.int p3), .val (.int p4), .val (.int p5), .val (.int 3), .val (.int n), .val (.int mm), .val (.int q0), .val (.int q1), .val (.int q2), .val (.int q3), .val (.ref x102), .val (.ref a330), .val (.int (nar .boolean (own_z 0))), .unset, .unset] [(.int q3), (.ref a330)])) rfl (by rw [hml]; rfl) (Steps.refl _) (argsL := [(.int q3)]) (rest := []) (lenOf pd_415 rfl) rfl (by show 2 * 0 + _ ≤ _; exact Nat.le_of_eq rfl) (hb hby at_138) (fun _ _ => ⟨rfl, rfl, (by decide : 8 + 0 ≤ _), (by decide : 21 + 0 ≤ _)⟩)
              dsimp only [Pt.U, Pt.locs, Pt.cells, Pt.slots] at X377 l377 y377 z377 st377 hQ377
              subst l377 y377 z377
              obtain ⟨rfl, Nq377, p377_0, p377_1, p377_2, p377_3, p377_4⟩ := hQ377
              have N377_ := Fr.app N366_ Nq377
              refine FinH.byS st377 ?_
              have sf379 : Safe Z consts_1 T101.vm T356.heap a330 := (Safe.keep p356_0 (allS sf368 (allS sf359 all0)) ch348.1 sf368)
              have sf380 : Safe Z consts_1 T101.vm T366.heap t336 := (Safe.keep p366_0 (allS sf379 (allS sf369 all0)) ch357.1 sf369)
              have ch378 : CHr Z consts_1 s.vm h0 T101.vm T377.heap := ch367.trans (CHr.keep p377_0 (allS (Safe.exa hZ101.alike p366_1 (by decide) (by decide)) (allS sf380 all0)) ch367.1)
              obtain rfl : n = (4 : Int32) := by rcases hn with rfl | rfl | rfl | rfl | rfl <;> first | rfl | (exact absurd hn3 (by decide))
              show FinH _ _ _ _ _ _ _ _ _ (T377.setTop (mkF m 141 #[.val (.int p1), .val (.int p2), .val (.int p3), .val (.int p4), .val (.int p5), .val (.int 3), .val (.int 4), .val (.int mm), .val (.int q0), .val (.int q1), .val (.int q2), .val (.int q3), .val (.ref x102), .val (.ref a330), .val (.int (nar .boolean (own_z 0))), .unset, .unset] []))
              have kp381 : Keep T101.heap h330 [] := (Keep.refl T101.heap []).ext E330
              have kp382 : Keep T101.heap T335.heap [] := kp381.trans p335_0 (allS (Or.inr (Nat.le_trans (Nat.le_refl _) (Nat.le_of_eq g330.symm))) all0)
              have kp383 : Keep T101.heap T347.heap [] := kp382.trans p347_0 (allS (Or.inr (Nat.le_trans (Nat.le_refl _) (Nat.le_of_eq g330.symm))) (allS (Or.inr (Nat.le_trans E330.1 p335_1)) all0))
              have kp384 : Keep T101.heap T356.heap [] := kp383.trans p356_0 (allS (Or.inr (Nat.le_trans (Nat.le_refl _) (Nat.le_of_eq g330.symm))) (allS (Or.inr (Nat.le_trans E330.1 p335_1)) all0))
              have kp385 : Keep T101.heap T366.heap [] := kp384.trans p366_0 (allS (Or.inr (Nat.le_trans (Nat.le_refl _) (Nat.le_of_eq g330.symm))) (allS (Or.inr (Nat.le_trans E330.1 p335_1)) all0))
              have kp386 : Keep T101.heap T377.heap [] := kp385.trans p377_0 (allS (Or.inr (Nat.le_trans (Nat.le_refl _) (Nat.le_of_eq g330.symm))) (allS (Or.inr (Nat.le_trans E330.1 p335_1)) all0))
              have sf387 : Safe Z consts_1 T101.vm T366.heap a330 := (Safe.keep p366_0 (allS sf379 (allS sf369 all0)) ch357.1 sf379)
              exact J141 T377 T377.heap _ T101.vm _ a330 t336 k337 (3 : Int32) (4 : Int32) (4 : Int32) [(.int (nar .char q0)), (.int (nar .char q1)), (.int (nar .char q2))] X377 rfl N377_ kp386 hS101w (Nat.le_trans (Nat.le_refl _) (Nat.le_trans (Nat.le_trans (Nat.le_trans (Nat.le_trans (Nat.le_trans E330.1 p335_0.1) p347_0.1) p356_0.1) p366_0.1) p377_0.1)) hZ101 hown101 ((((((CHr.ext E330 ch108.1).trans (CHr.keep p335_0 (allS sf349 all0) ch331.1)).trans (CHr.keep p347_0 (allS sf358 (allS sf350 all0)) ch338.1)).trans (CHr.keep p356_0 (allS sf368 (allS sf359 all0)) ch348.1)).trans (CHr.keep p366_0 (allS sf379 (allS sf369 all0)) ch357.1)).trans (CHr.keep p377_0 (allS sf387 (allS sf380 all0)) ch367.1)) p377_1 p377_3 p377_2 p377_4 (Or.inr ⟨by decide, by decide⟩) (Or.inr ⟨fun q => hm.2 (by rw [← q]; decide), fun q => hm.2 (by rw [← q]; decide)⟩)
            · refine FinH.by (fun tt_ kk_ => XS.icmpYes X366.here hx rfl (pc0 := 131) (pc' := 141) rfl (hb hby at_131) rfl (flt hn3).2.2.2 (by decide) (by decide) kk_) ?_
              obtain rfl : n = (3 : Int32) := by rcases hn with rfl | rfl | rfl | rfl | rfl <;> first | rfl | (exact absurd hn3 (by decide)) | (exact absurd (by decide) hn3) | (exact absurd hn2 (by decide))
              show FinH _ _ _ _ _ _ _ _ _ (T366.setTop (mkF m 141 #[.val (.int p1), .val (.int p2), .val (.int p3), .val (.int p4), .val (.int p5), .val (.int 3), .val (.int 3), .val (.int mm), .val (.int q0), .val (.int q1), .val (.int q2), .val (.int q3), .val (.ref x102), .val (.ref a330), .val (.int (nar .boolean (own_z 0))), .unset, .unset] []))
              have kp370 : Keep T101.heap h330 [] := (Keep.refl T101.heap []).ext E330
              have kp371 : Keep T101.heap T335.heap [] := kp370.trans p335_0 (allS (Or.inr (Nat.le_trans (Nat.le_refl _) (Nat.le_of_eq g330.symm))) all0)
              have kp372 : Keep T101.heap T347.heap [] := kp371.trans p347_0 (allS (Or.inr (Nat.le_trans (Nat.le_refl _) (Nat.le_of_eq g330.symm))) (allS (Or.inr (Nat.le_trans E330.1 p335_1)) all0))
              have kp373 : Keep T101.heap T356.heap [] := kp372.trans p356_0 (allS (Or.inr (Nat.le_trans (Nat.le_refl _) (Nat.le_of_eq g330.symm))) (allS (Or.inr (Nat.le_trans E330.1 p335_1)) all0))
              have kp374 : Keep T101.heap T366.heap [] := kp373.trans p366_0 (allS (Or.inr (Nat.le_trans (Nat.le_refl _) (Nat.le_of_eq g330.symm))) (allS (Or.inr (Nat.le_trans E330.1 p335_1)) all0))
              have sf375 : Safe Z consts_1 T101.vm T356.heap a330 := (Safe.keep p356_0 (allS sf368 (allS sf359 all0)) ch348.1 sf368)
              exact J141 T366 T366.heap _ T101.vm _ a330 t336 k337 (3 : Int32) (3 : Int32) (3 : Int32) [(.int (nar .char q0)), (.int (nar .char q1)), (.int (nar .char q2))] X366 rfl N366_ kp374 hS101w (Nat.le_trans (Nat.le_refl _) (Nat.le_trans (Nat.le_trans (Nat.le_trans (Nat.le_trans E330.1 p335_0.1) p347_0.1) p356_0.1) p366_0.1)) hZ101 hown101 (((((CHr.ext E330 ch108.1).trans (CHr.keep p335_0 (allS sf349 all0) ch331.1)).trans (CHr.keep p347_0 (allS sf358 (allS sf350 all0)) ch338.1)).trans (CHr.keep p356_0 (allS sf368 (allS sf359 all0)) ch348.1)).trans (CHr.keep p366_0 (allS sf375 (allS sf369 all0)) ch357.1)) p366_1 p366_3 p366_2 p366_4 (Or.inr ⟨by decide, by decide⟩) (if hmn : mm = (3 : Int32) then Or.inl ⟨hmn.symm, hmn.symm, by rw [hmn, own_pre3]; rfl, by rw [hmn, own_pre3]; exact Nat.le_of_ble_eq_true rfl⟩ else Or.inr ⟨fun q => hmn q.symm, fun q => hmn q.symm⟩)
          · refine FinH.by (fun tt_ kk_ => XS.icmpYes X356.here hx rfl (pc0 := 118) (pc' := 128) rfl (hb hby at_118) rfl (flt hn2).2.2.2 (by decide) (by decide) kk_) ?_
            obtain rfl : n = (2 : Int32) := by rcases hn with rfl | rfl | rfl | rfl | rfl <;> first | rfl | (exact absurd hn2 (by decide)) | (exact absurd (by decide) hn2) | (exact absurd hn1 (by decide))
            refine FinH.by (fun tt_ kk_ => XS.iload X356.here hx rfl (hb hby at_128) rfl (XS.iconst X356.here hx rfl (hb hby at_130) kk_)) ?_
            show FinH _ _ _ _ _ _ _ _ _ (T356.setTop (mkF m 131 #[.val (.int p1), .val (.int p2), .val (.int p3), .val (.int p4), .val (.int p5), .val (.int 3), .val (.int 2), .val (.int mm), .val (.int q0), .val (.int q1), .val (.int q2), .val (.int q3), .val (.ref x102), .val (.ref a330), .val (.int (nar .boolean (own_z 0))), .unset, .unset] [(.int 3), (.int 2)]))
            refine FinH.by (fun tt_ kk_ => XS.icmpYes X356.here hx rfl (pc0 := 131) (pc' := 141) rfl (hb hby at_131) rfl (flt (by decide : ¬ (3 : Int32) < (2 : Int32))).2.2.2 (by decide) (by decide) kk_) ?_
            show FinH _ _ _ _ _ _ _ _ _ (T356.setTop (mkF m 141 #[.val (.int p1), .val (.int p2), .val (.int p3), .val (.int p4), .val (.int p5), .val (.int 3), .val (.int 2), .val (.int mm), .val (.int q0), .val (.int q1), .val (.int q2), .val (.int q3), .val (.ref x102), .val (.ref a330), .val (.int (nar .boolean (own_z 0))), .unset, .unset] []))
            have kp360 : Keep T101.heap h330 [] := (Keep.refl T101.heap []).ext E330
            have kp361 : Keep T101.heap T335.heap [] := kp360.trans p335_0 (allS (Or.inr (Nat.le_trans (Nat.le_refl _) (Nat.le_of_eq g330.symm))) all0)
            have kp362 : Keep T101.heap T347.heap [] := kp361.trans p347_0 (allS (Or.inr (Nat.le_trans (Nat.le_refl _) (Nat.le_of_eq g330.symm))) (allS (Or.inr (Nat.le_trans E330.1 p335_1)) all0))
            have kp363 : Keep T101.heap T356.heap [] := kp362.trans p356_0 (allS (Or.inr (Nat.le_trans (Nat.le_refl _) (Nat.le_of_eq g330.symm))) (allS (Or.inr (Nat.le_trans E330.1 p335_1)) all0))
            have sf364 : Safe Z consts_1 T101.vm T347.heap a330 := (Safe.keep p347_0 (allS sf358 (allS sf350 all0)) ch338.1 sf358)
            exact J141 T356 T356.heap _ T101.vm _ a330 t336 k337 (3 : Int32) (2 : Int32) (2 : Int32) [(.int (nar .char q0)), (.int (nar .char q1)), (.int (0 : Int32))] X356 rfl N356_ kp363 hS101w (Nat.le_trans (Nat.le_refl _) (Nat.le_trans (Nat.le_trans (Nat.le_trans E330.1 p335_0.1) p347_0.1) p356_0.1)) hZ101 hown101 ((((CHr.ext E330 ch108.1).trans (CHr.keep p335_0 (allS sf349 all0) ch331.1)).trans (CHr.keep p347_0 (allS sf358 (allS sf350 all0)) ch338.1)).trans (CHr.keep p356_0 (allS sf364 (allS sf359 all0)) ch348.1)) p356_1 p356_3 p356_2 p356_4 (Or.inr ⟨by decide, by decide⟩) (if hmn : mm = (2 : Int32) then Or.inl ⟨hmn.symm, hmn.symm, by rw [hmn, own_pre2]; rfl, by rw [hmn, own_pre2]; exact Nat.le_of_ble_eq_true rfl⟩ else Or.inr ⟨fun q => hmn q.symm, fun q => hmn q.symm⟩)
        · refine FinH.by (fun tt_ kk_ => XS.icmpYes X347.here hx rfl (pc0 := 105) (pc' := 115) rfl (hb hby at_105) rfl (flt hn1).2.2.2 (by decide) (by decide) kk_) ?_
          obtain rfl : n = (1 : Int32) := by rcases hn with rfl | rfl | rfl | rfl | rfl <;> first | rfl | (exact absurd hn1 (by decide)) | (exact absurd (by decide) hn1) | (exact absurd hn0 (by decide))
          refine FinH.by (fun tt_ kk_ => XS.iload X347.here hx rfl (hb hby at_115) rfl (XS.iconst X347.here hx rfl (hb hby at_117) kk_)) ?_
          show FinH _ _ _ _ _ _ _ _ _ (T347.setTop (mkF m 118 #[.val (.int p1), .val (.int p2), .val (.int p3), .val (.int p4), .val (.int p5), .val (.int 3), .val (.int 1), .val (.int mm), .val (.int q0), .val (.int q1), .val (.int q2), .val (.int q3), .val (.ref x102), .val (.ref a330), .val (.int (nar .boolean (own_z 0))), .unset, .unset] [(.int 2), (.int 1)]))
          refine FinH.by (fun tt_ kk_ => XS.icmpYes X347.here hx rfl (pc0 := 118) (pc' := 128) rfl (hb hby at_118) rfl (flt (by decide : ¬ (2 : Int32) < (1 : Int32))).2.2.2 (by decide) (by decide) kk_) ?_
          refine FinH.by (fun tt_ kk_ => XS.iload X347.here hx rfl (hb hby at_128) rfl (XS.iconst X347.here hx rfl (hb hby at_130) kk_)) ?_
          show FinH _ _ _ _ _ _ _ _ _ (T347.setTop (mkF m 131 #[.val (.int p1), .val (.int p2), .val (.int p3), .val (.int p4), .val (.int p5), .val (.int 3), .val (.int 1), .val (.int mm), .val (.int q0), .val (.int q1), .val (.int q2), .val (.int q3), .val (.ref x102), .val (.ref a330), .val (.int (nar .boolean (own_z 0))), .unset, .unset] [(.int 3), (.int 1)]))
          refine FinH.by (fun tt_ kk_ => XS.icmpYes X347.here hx rfl (pc0 := 131) (pc' := 141) rfl (hb hby at_131) rfl (flt (by decide : ¬ (3 : Int32) < (1 : Int32))).2.2.2 (by decide) (by decide) kk_) ?_
          show FinH _ _ _ _ _ _ _ _ _ (T347.setTop (mkF m 141 #[.val (.int p1), .val (.int p2), .val (.int p3), .val (.int p4), .val (.int p5), .val (.int 3), .val (.int 1), .val (.int mm), .val (.int q0), .val (.int q1), .val (.int q2), .val (.int q3), .val (.ref x102), .val (.ref a330), .val (.int (nar .boolean (own_z 0))), .unset, .unset] []))
          have kp351 : Keep T101.heap h330 [] := (Keep.refl T101.heap []).ext E330
          have kp352 : Keep T101.heap T335.heap [] := kp351.trans p335_0 (allS (Or.inr (Nat.le_trans (Nat.le_refl _) (Nat.le_of_eq g330.symm))) all0)
          have kp353 : Keep T101.heap T347.heap [] := kp352.trans p347_0 (allS (Or.inr (Nat.le_trans (Nat.le_refl _) (Nat.le_of_eq g330.symm))) (allS (Or.inr (Nat.le_trans E330.1 p335_1)) all0))
          have sf354 : Safe Z consts_1 T101.vm T335.heap a330 := (Safe.keep p335_0 (allS sf349 all0) ch331.1 sf349)
          exact J141 T347 T347.heap _ T101.vm _ a330 t336 k337 (3 : Int32) (1 : Int32) (1 : Int32) [(.int (nar .char q0)), (.int (0 : Int32)), (.int (0 : Int32))] X347 rfl N347_ kp353 hS101w (Nat.le_trans (Nat.le_refl _) (Nat.le_trans (Nat.le_trans E330.1 p335_0.1) p347_0.1)) hZ101 hown101 (((CHr.ext E330 ch108.1).trans (CHr.keep p335_0 (allS sf349 all0) ch331.1)).trans (CHr.keep p347_0 (allS sf354 (allS sf350 all0)) ch338.1)) p347_1 p347_3 p347_2 p347_4 (Or.inr ⟨by decide, by decide⟩) (if hmn : mm = (1 : Int32) then Or.inl ⟨hmn.symm, hmn.symm, by rw [hmn, own_pre1]; rfl, by rw [hmn, own_pre1]; exact Nat.le_of_ble_eq_true rfl⟩ else Or.inr ⟨fun q => hmn q.symm, fun q => hmn q.symm⟩)
      · refine FinH.by (fun tt_ kk_ => XS.ifYes X340.here hx rfl (pc0 := 92) (pc' := 102) rfl (hb hby at_92) rfl ((if0 _ _).trans (flt hn0).2.2.2) (by decide) (by decide) kk_) ?_
        obtain rfl : n = (0 : Int32) := by rcases hn with rfl | rfl | rfl | rfl | rfl <;> first | rfl | (exact absurd hn0 (by decide)) | (exact absurd (by decide) hn0)
        refine FinH.by (fun tt_ kk_ => XS.iload X340.here hx rfl (hb hby at_102) rfl (XS.iconst X340.here hx rfl (hb hby at_104) kk_)) ?_
        show FinH _ _ _ _ _ _ _ _ _ (T340.setTop (mkF m 105 #[.val (.int p1), .val (.int p2), .val (.int p3), .val (.int p4), .val (.int p5), .val (.int 3), .val (.int 0), .val (.int mm), .val (.int q0), .val (.int q1), .val (.int q2), .val (.int q3), .val (.ref x102), .val (.ref a330), .val (.int (nar .boolean (own_z 0))), .unset, .unset] [(.int 1), (.int 0)]))
        refine FinH.by (fun tt_ kk_ => XS.icmpYes X340.here hx rfl (pc0 := 105) (pc' := 115) rfl (hb hby at_105) rfl (flt (by decide : ¬ (1 : Int32) < (0 : Int32))).2.2.2 (by decide) (by decide) kk_) ?_
        refine FinH.by (fun tt_ kk_ => XS.iload X340.here hx rfl (hb hby at_115) rfl (XS.iconst X340.here hx rfl (hb hby at_117) kk_)) ?_
        show FinH _ _ _ _ _ _ _ _ _ (T340.setTop (mkF m 118 #[.val (.int p1), .val (.int p2), .val (.int p3), .val (.int p4), .val (.int p5), .val (.int 3), .val (.int 0), .val (.int mm), .val (.int q0), .val (.int q1), .val (.int q2), .val (.int q3), .val (.ref x102), .val (.ref a330), .val (.int (nar .boolean (own_z 0))), .unset, .unset] [(.int 2), (.int 0)]))
        refine FinH.by (fun tt_ kk_ => XS.icmpYes X340.here hx rfl (pc0 := 118) (pc' := 128) rfl (hb hby at_118) rfl (flt (by decide : ¬ (2 : Int32) < (0 : Int32))).2.2.2 (by decide) (by decide) kk_) ?_
        refine FinH.by (fun tt_ kk_ => XS.iload X340.here hx rfl (hb hby at_128) rfl (XS.iconst X340.here hx rfl (hb hby at_130) kk_)) ?_
        show FinH _ _ _ _ _ _ _ _ _ (T340.setTop (mkF m 131 #[.val (.int p1), .val (.int p2), .val (.int p3), .val (.int p4), .val (.int p5), .val (.int 3), .val (.int 0), .val (.int mm), .val (.int q0), .val (.int q1), .val (.int q2), .val (.int q3), .val (.ref x102), .val (.ref a330), .val (.int (nar .boolean (own_z 0))), .unset, .unset] [(.int 3), (.int 0)]))
        refine FinH.by (fun tt_ kk_ => XS.icmpYes X340.here hx rfl (pc0 := 131) (pc' := 141) rfl (hb hby at_131) rfl (flt (by decide : ¬ (3 : Int32) < (0 : Int32))).2.2.2 (by decide) (by decide) kk_) ?_
        show FinH _ _ _ _ _ _ _ _ _ (T340.setTop (mkF m 141 #[.val (.int p1), .val (.int p2), .val (.int p3), .val (.int p4), .val (.int p5), .val (.int 3), .val (.int 0), .val (.int mm), .val (.int q0), .val (.int q1), .val (.int q2), .val (.int q3), .val (.ref x102), .val (.ref a330), .val (.int (nar .boolean (own_z 0))), .unset, .unset] []))
        have kp341 : Keep T101.heap h330 [] := (Keep.refl T101.heap []).ext E330
        have kp342 : Keep T101.heap T335.heap [] := kp341.trans p335_0 (allS (Or.inr (Nat.le_trans (Nat.le_refl _) (Nat.le_of_eq g330.symm))) all0)
        have sf343 : Safe Z consts_1 T101.vm h330 a330 := (Safe.ext E330 ch108.1 (Safe.new (Nat.le_of_eq g330.symm)))
        exact J141 T340 T335.heap _ T101.vm _ a330 t336 k337 (3 : Int32) (0 : Int32) (0 : Int32) [(.int (0 : Int32)), (.int (0 : Int32)), (.int (0 : Int32))] X340 e340 N340_ kp342 hS101w (Nat.le_trans (Nat.le_refl _) (Nat.le_trans E330.1 p335_0.1)) hZ101 hown101 ((CHr.ext E330 ch108.1).trans (CHr.keep p335_0 (allS sf343 all0) ch331.1)) p335_2 p335_4 p335_3 p335_5 (Or.inl ⟨rfl, rfl⟩) (if hmn : mm = (0 : Int32) then Or.inl ⟨hmn.symm, hmn.symm, by rw [hmn, own_pre0]; rfl, by rw [hmn, own_pre0]; exact Nat.le_of_ble_eq_true rfl⟩ else Or.inr ⟨fun q => hmn q.symm, fun q => hmn q.symm⟩)
  show FinH _ _ _ _ _ _ _ _ _ (s₁.setTop (mkF m 59 #[.val (.int p1), .val (.int p2), .val (.int p3), .val (.int p4), .val (.int p5), .val (.int (p1 &&& 3)), .val (.int ((p2 &&& 2147483647) % 5)), .val (.int ((p5 &&& 2147483647) % ((p1 &&& 3) + 1))), .val (.int ((p3 &&& 65535).toUInt32.toUInt16.toUInt32.toInt32)), .val (.int ((((p3.toUInt32 >>> ((16 : Int32) &&& 31).toUInt32).toInt32) &&& 65535).toUInt32.toUInt16.toUInt32.toInt32)), .val (.int ((p4 &&& 65535).toUInt32.toUInt16.toUInt32.toInt32)), .val (.int ((((p4.toUInt32 >>> ((16 : Int32) &&& 31).toUInt32).toInt32) &&& 65535).toUInt32.toUInt16.toUInt32.toInt32)), .unset, .unset, .unset, .unset, .unset] []))
  exact J59 (p1 &&& (3 : Int32)) ((p2 &&& (2147483647 : Int32)) % (5 : Int32)) ((p5 &&& (2147483647 : Int32)) % ((p1 &&& (3 : Int32)) + (1 : Int32))) ((p3 &&& (65535 : Int32)).toUInt32.toUInt16.toUInt32.toInt32) ((((p3.toUInt32 >>> ((16 : Int32) &&& 31).toUInt32).toInt32) &&& (65535 : Int32)).toUInt32.toUInt16.toUInt32.toInt32) ((p4 &&& (65535 : Int32)).toUInt32.toUInt16.toUInt32.toInt32) ((((p4.toUInt32 >>> ((16 : Int32) &&& 31).toUInt32).toInt32) &&& (65535 : Int32)).toUInt32.toUInt16.toUInt32.toInt32) (own_and3 _) (own_mod5 _) (own_modk (own_and3 _) _)
set_option maxRecDepth 65536 in
set_option maxHeartbeats 40000000 in
theorem comes_1 {Post : Tables → Env → Array Value → State → Outcome → State → Prop} (hpost : ∀ tb e args s v u, (limb_1_1.after args s (.returned v) u = true ∧ limb_1_2.after args s (.returned v) u = true ∧ True) → ReturnedEndW s (.returned v) u (Jvm.fieldLocs frame_1_writes args s ++ Jvm.arrayLocs frame_1_arrays args s ++ Jvm.staticLocs frame_1_statics s) 24 1152 → Post tb e args s (.returned v) u) :
    ArmFor flags0 classFile x code maxLocals ret World_1 tables_1 room_1 Calls_1 rest_1 Pre_1 Post := by
  intro l hfl _ _ p e ha hc hk s m args below hf hA hF happ hP
  obtain ⟨hcalls, hrest, hpre⟩ := hP
  obtain ⟨-, -, -, hnamed, -, -, -, hat⟩ := (Spec.applies_iff hf).mp happ
  obtain ⟨hg, hn⟩ := and_e (Cond.before_iff.mp (show (Jvm.Cond.and given_1 narrow_1).before args s = true from hpre))
  obtain ⟨q0, r0⟩ := and_e hg
  obtain ⟨q1, r1⟩ := and_e r0
  obtain ⟨q2, r2⟩ := and_e r1
  obtain ⟨q3, r3⟩ := and_e r2
  obtain ⟨q4, r4⟩ := and_e r3
  obtain ⟨w0, w1, w2, w3, w4, rfl⟩ : ∃ w0 w1 w2 w3 w4 : Value, args = #[w0, w1, w2, w3, w4] := by
    have hs : args.size = 5 := by simpa [Cond.value, given_1] using q0
    obtain ⟨L⟩ := args
    match L, hs with
    | [w0, w1, w2, w3, w4], _ => exact ⟨w0, w1, w2, w3, w4, rfl⟩
  have hw := fun d (hd : d ∈ tables_1) => atoms_spec (ws := Jvm.Cond.code x code maxLocals ret :: tables_1) hat d (List.mem_cons_of_mem _ hd)
  obtain ⟨hsets, hown0⟩ := atoms_of _ (rest_1_c_eq ▸ (show rest_1_c.before _ s = true from hrest))
  have hfit : Fit s := fun {y c} hc i hi => by
    obtain ⟨ha, rfl⟩ := Array.getElem?_eq_some_iff.mp hc
    have q := List.all_eq_true.mp ((Array.all_eq_true_iff_forall_mem.mp hF) _ (Array.getElem_mem ha)) i (List.mem_range.mpr hi)
    simpa [Array.getElem?_eq_getElem hi] using q
  obtain ⟨i0, e0⟩ := is_v q1
  obtain rfl : w0 = (.int i0) := Option.some.inj e0
  obtain ⟨i1, e1⟩ := is_v q2
  obtain rfl : w1 = (.int i1) := Option.some.inj e1
  obtain ⟨i2, e2⟩ := is_v q3
  obtain rfl : w2 = (.int i2) := Option.some.inj e2
  obtain ⟨i3, e3⟩ := is_v q4
  obtain rfl : w3 = (.int i3) := Option.some.inj e3
  obtain ⟨i4, e4⟩ := is_v r4
  obtain rfl : w4 = (.int i4) := Option.some.inj e4
  have nz_cs := not_v (Cond.before_iff.mp (hsets _ (List.mem_of_getElem? (i := 2) rfl)))
  obtain ⟨G1, ee_cs⟩ := is_v (Cond.before_iff.mp (hsets _ (List.mem_of_getElem? (i := 1) rfl)))
  have S1 : Sta s s.heap "java/lang/String" "COMPACT_STRINGS" "Z" (.int G1) := Sta.start ee_cs (Or.inl (hsets _ (List.mem_of_getElem? (i := 0) rfl)))
  have P1 : ¬ (G1 = (0 : Int32)) := gotF (Cond.eq_ints ee_cs (Term.int_eval (0))) nz_cs
  have S6 : Sta s s.heap "java/lang/StringUTF16" "$assertionsDisabled" "Z" (.int (1 : Int32)) := Sta.start (own_eqi (Cond.before_iff.mp (hsets _ (List.mem_of_getElem? (i := 12) rfl)))) (Or.inl (hsets _ (List.mem_of_getElem? (i := 11) rfl)))
  have S7 : Sta s s.heap "java/lang/StringUTF16" "HI_BYTE_SHIFT" "I" (.int (0 : Int32)) := Sta.start (own_eqi (Cond.before_iff.mp (hsets _ (List.mem_of_getElem? (i := 15) rfl)))) (Or.inl (hsets _ (List.mem_of_getElem? (i := 14) rfl)))
  have S8 : Sta s s.heap "java/lang/StringUTF16" "LO_BYTE_SHIFT" "I" (.int (8 : Int32)) := Sta.start (own_eqi (Cond.before_iff.mp (hsets _ (List.mem_of_getElem? (i := 18) rfl)))) (Or.inl (hsets _ (List.mem_of_getElem? (i := 17) rfl)))
  obtain ⟨G9, ee_G9, r9⟩ := isR_v (Cond.before_iff.mp (hsets _ (List.mem_of_getElem? (i := 8) rfl)))
  have S9 : Sta s s.heap "jdk/internal/util/Preconditions" "SIOOBE_FORMATTER" "Ljava/util/function/BiFunction;" G9 := Sta.start ee_G9 (Or.inl (hsets _ (List.mem_of_getElem? (i := 7) rfl)))
  have hC0 : CHv s consts_1 s.vm s.heap := CHv.start (own_EW0 hw) (fun p hp => hcalls.1 p hp) (hsets _ (List.mem_of_getElem? (i := 2) rfl)) (w_ hw 21 rfl) (w_ hw 7 rfl)
  obtain ⟨n, o, h1, h2, h3, _, L, rfl, ⟨rfl, N⟩, -, hq⟩ := rm_law l s _ hw tables_1 i0 i1 i2 i3 i4 G1 G9 s.heap s.heap.size (Nat.le_refl _) S1 P1 S6 S7 S8 S9 r9 (Old.start s) p e ha hc hk s m _ below hf ((Spec.applies_iff_loose hf).mp happ).1 ⟨rfl, State.Warmed39.refl s, rfl, hC0⟩ trivial
  refine ⟨n, _, h1, h2, h3, hpost _ _ _ _ _ _ ⟨Cond.after_iff.mpr rfl, Cond.after_iff.mpr (eq_i res_at (Term.int_eval (1)) rfl), trivial⟩ ⟨hq.1, hq.2.1, hq.2.2.1, (hq.2.2.2.sift fun y hy => Or.inr (N y hy)).mono (by decide) (by decide)⟩⟩
theorem main_1_1 : Claimed_1_1 := comes_1 fun _ _ _ _ _ _ h hF => ⟨h.1, hF⟩
theorem main_1_2 : Claimed_1_2 := comes_1 fun _ _ _ _ _ _ h hF => ⟨h.2.1, hF⟩
end Jvm.Pilot.@@N@@
namespace Jvm.Pilot.@@N@@
open Jvm Jvm.ClassFile Sem Op Lib Jvm.Free Jvm.Stand Jvm.Pilot.@@N@@.Jvm.D
/-! MADE BY PROGRAM (witnessworld.py) out of the Statement's table words and the real class files: 20 classes; the members and pool entries that the words name. The judged class is class 1, her method 2. -/
namespace start1
open Jvm.ClassFile
def u (s : String) : CpInfo := .utf8 (stringToUtf16 s)
/-- a pool by its gaps: so many unusable entries, then the entry; so many at the end -/
def gap : Nat → List CpInfo → List CpInfo
  | 0, r => r
  | n + 1, r => .unusable :: gap n r
def poolList (es : List (Nat × CpInfo)) (last : Nat) : List CpInfo := es.foldr (fun e r => gap e.1 (e.2 :: r)) (gap last [])
def pool (es : List (Nat × CpInfo)) (last : Nat) : Array CpInfo := ⟨poolList es last⟩
def fileOf (pool : Array CpInfo) (this : Nat) (attrs : Array Attribute := #[]) (ms : Array MethodInfo := #[]) (fl : Nat := 33) (sup : Nat := 0) (ifs : Array Nat := #[]) (fds : Array FieldInfo := #[]) : ClassFile where
  minorVersion := 0
  majorVersion := 65
  constantPool := pool
  accessFlags := fl
  thisClass := this
  superClass := sup
  interfaces := ifs
  fields := fds
  methods := ms
  attributes := attrs
def plain (name : String) (sup : Option ClassId) : Class where
  name := name
  kind := .ordinary
  loader := none
  accessFlags := 33
  super := sup
  interfaces := #[]
  cf := none
  fields := #[]
  methods := #[]
  instanceTypes := #[]
  staticTypes := #[]
  resolved := #[]
  callSites := []
  init := .initialized
  statics := none
  mirror := none

def pool0 : Array CpInfo := pool [(5, u "<init>"), (0, u "()V"), (1, .class_ 10), (1, u "java/lang/Object")] 113

def k0c0 : Code := { maxStack := 0, maxLocals := 1, code := object_method_1_code, exceptionTable := #[], attributes := #[] }
def k0m0 : Method := { name := "<init>", desc := "()V", sig := { parameters := [], returnType := none }, accessFlags := 1, code := some k0c0 }
/-- java/lang/Object -/
def k0 : Class := { plain "java/lang/Object" none with
  accessFlags := 33
  interfaces := #[]
  cf := some (fileOf pool0 8 #[] #[{ accessFlags := 1, nameIndex := 5, descriptorIndex := 6, attributes := #[] }] 33 0 #[] #[])
  fields := #[]
  methods := #[k0m0]
  instanceTypes := #[]
  staticTypes := #[]
  resolved := Array.replicate 124 none
  statics := none }

def pool1 : Array CpInfo := pool [(2, .class_ 4), (1, u "java/lang/Object"), (0, u "<init>"), (0, u "()V"), (0, .class_ 8), (0, u "java/lang/String"), (0, .methodref 7 10), (0, .nameAndType 5 11), (0, u "([C)V"), (0, .integer 2147483647), (0, .integer 65535), (0, .methodref 15 16), (0, .class_ 17), (0, .nameAndType 18 19), (0, u "com/example/colonnade/colonnade/WordBufferAddPinLaw"), (0, u "prefix"), (0, u "(ICCC)Ljava/lang/String;"), (0, .class_ 21), (0, u "com/example/colonnade/colonnade/WordBuffer"), (0, .methodref 20 23), (0, .nameAndType 5 24), (0, u "(I)V"), (0, .methodref 20 26), (0, .nameAndType 27 28), (0, u "isEmpty"), (0, u "()Z"), (0, .methodref 20 30), (0, .nameAndType 31 32), (0, u "add"), (0, u "(C)V"), (0, .methodref 20 34), (0, .nameAndType 35 36), (0, u "isExactly"), (0, u "(Ljava/lang/String;)Z"), (3, u "law"), (0, u "(IIIII)Z")] 2

def k1m0 : Method := { name := "<init>", desc := "()V", sig := { parameters := [], returnType := none }, accessFlags := 1, code := none }
def k1c1 : Code := { maxStack := 3, maxLocals := 5, code := method_2_code, exceptionTable := #[], attributes := #[] }
def k1m1 : Method := { name := "prefix", desc := "(ICCC)Ljava/lang/String;", sig := { parameters := [.int, .char, .char, .char], returnType := some (.object "java/lang/String") }, accessFlags := 10, code := some k1c1 }
def k1c2 : Code := { maxStack := 4, maxLocals := 17, code := code, exceptionTable := #[], attributes := #[] }
def k1m2 : Method := { name := "law", desc := "(IIIII)Z", sig := { parameters := [.int, .int, .int, .int, .int], returnType := some .boolean }, accessFlags := 9, code := some k1c2 }
/-- com/example/colonnade/colonnade/WordBufferAddPinLaw -/
def k1 : Class := { plain "com/example/colonnade/colonnade/WordBufferAddPinLaw" (some 0) with
  accessFlags := 49
  interfaces := #[]
  cf := some (fileOf pool1 15 #[] #[{ accessFlags := 1, nameIndex := 5, descriptorIndex := 6, attributes := #[] }, { accessFlags := 10, nameIndex := 18, descriptorIndex := 19, attributes := #[] }, { accessFlags := 9, nameIndex := 40, descriptorIndex := 41, attributes := #[] }] 49 2 #[] #[])
  fields := #[]
  methods := #[k1m0, k1m1, k1m2]
  instanceTypes := #[]
  staticTypes := #[]
  resolved := Array.replicate 44 none
  statics := none }

def pool2 : Array CpInfo := pool [(1, .class_ 2), (0, u "java/io/Serializable"), (0, .class_ 4), (0, u "java/lang/Object")] 2

/-- java/io/Serializable -/
def k2 : Class := { plain "java/io/Serializable" (some 0) with
  accessFlags := 1537
  interfaces := #[]
  cf := some (fileOf pool2 1 #[] #[] 1537 3 #[] #[])
  fields := #[]
  methods := #[]
  instanceTypes := #[]
  staticTypes := #[]
  resolved := Array.replicate 7 none
  statics := none }

def pool3 : Array CpInfo := pool [(1, .class_ 2), (0, u "java/lang/Comparable"), (0, .class_ 4), (0, u "java/lang/Object")] 7

/-- java/lang/Comparable -/
def k3 : Class := { plain "java/lang/Comparable" (some 0) with
  accessFlags := 1537
  interfaces := #[]
  cf := some (fileOf pool3 1 #[] #[] 1537 3 #[] #[])
  fields := #[]
  methods := #[]
  instanceTypes := #[]
  staticTypes := #[]
  resolved := Array.replicate 12 none
  statics := none }

def pool4 : Array CpInfo := pool [(2, .class_ 4), (1, u "java/lang/CharSequence"), (42, .class_ 48), (0, u "java/lang/CharSequence$1CodePointIterator"), (10, .class_ 60), (0, u "java/lang/CharSequence$1CharIterator"), (5, .class_ 67), (0, u "java/lang/Object")] 63

/-- java/lang/CharSequence -/
def k4 : Class := { plain "java/lang/CharSequence" (some 0) with
  accessFlags := 1537
  interfaces := #[]
  cf := some (fileOf pool4 2 #[.nestMembers #[47, 59]] #[] 1537 66 #[] #[])
  fields := #[]
  methods := #[]
  instanceTypes := #[]
  staticTypes := #[]
  resolved := Array.replicate 131 none
  statics := none }

def pool5 : Array CpInfo := pool [(1, .class_ 2), (0, u "java/lang/constant/Constable"), (0, .class_ 4), (0, u "java/lang/Object")] 6

/-- java/lang/constant/Constable -/
def k5 : Class := { plain "java/lang/constant/Constable" (some 0) with
  accessFlags := 1537
  interfaces := #[]
  cf := some (fileOf pool5 1 #[] #[] 1537 3 #[] #[])
  fields := #[]
  methods := #[]
  instanceTypes := #[]
  staticTypes := #[]
  resolved := Array.replicate 11 none
  statics := none }

def pool6 : Array CpInfo := pool [(1, .class_ 2), (0, u "java/lang/constant/ConstantDesc"), (0, .class_ 4), (0, u "java/lang/Object")] 32

/-- java/lang/constant/ConstantDesc -/
def k6 : Class := { plain "java/lang/constant/ConstantDesc" (some 0) with
  accessFlags := 1537
  interfaces := #[]
  cf := some (fileOf pool6 1 #[] #[] 1537 3 #[] #[])
  fields := #[]
  methods := #[]
  instanceTypes := #[]
  staticTypes := #[]
  resolved := Array.replicate 37 none
  statics := none }

def pool7 : Array CpInfo := pool [(1, .methodref 2 3), (0, .class_ 4), (0, .nameAndType 5 6), (0, u "java/lang/Object"), (0, u "<init>"), (0, u "()V"), (0, .string 8), (0, u ""), (0, .fieldref 10 11), (0, .class_ 12), (0, .nameAndType 13 14), (0, u "java/lang/String"), (0, u "value"), (0, u "[B"), (0, .fieldref 10 16), (0, .nameAndType 17 18), (0, u "coder"), (0, u "B"), (2, u "hash"), (0, u "I"), (2, u "hashIsZero"), (0, u "Z"), (0, .methodref 10 28), (0, .nameAndType 5 29), (0, u "([CIILjava/lang/Void;)V"), (8, .fieldref 10 39), (0, .nameAndType 40 26), (0, u "COMPACT_STRINGS"), (1, .class_ 44), (1, u "java/lang/StringUTF16"), (0, u "compress"), (1, .methodref 42 48), (0, .nameAndType 49 50), (0, u "coderFromArrayLen"), (0, u "([BI)B"), (56, .class_ 109), (1, u "java/lang/StringLatin1"), (32, u "()Z"), (34, .methodref 42 178), (0, .nameAndType 45 179), (0, u "([CII)[B"), (154, u "()I"), (0, .methodref 10 336), (0, .nameAndType 17 337), (0, u "()B"), (25, u "([BI)C"), (27, u "(II)V"), (35, u "(I)C"), (64, .methodref 10 493), (0, .nameAndType 494 142), (0, u "isLatin1"), (0, .methodref 107 496), (0, .nameAndType 497 363), (0, u "charAt"), (0, .methodref 42 496), (2, u "checkIndex"), (5, u "length"), (67, .class_ 576), (0, u "java/lang/CharSequence"), (22, u "CASE_INSENSITIVE_ORDER"), (0, u "Ljava/util/Comparator;"), (409, u "([C)V"), (42, .fieldref 1054 1055), (0, .class_ 1056), (0, .nameAndType 1057 1058), (0, u "jdk/internal/util/Preconditions"), (0, u "SIOOBE_FORMATTER"), (0, u "Ljava/util/function/BiFunction;"), (0, .methodref 1054 1060), (0, .nameAndType 501 1061), (0, u "(IILjava/util/function/BiFunction;)I"), (39, u "serialPersistentFields"), (0, u "[Ljava/io/ObjectStreamField;"), (0, .class_ 1104), (0, u "java/lang/String$CaseInsensitiveComparator"), (1, .class_ 1107), (0, u "java/io/Serializable"), (0, .class_ 1109), (0, u "java/lang/Comparable"), (0, .class_ 1111), (0, u "java/lang/constant/Constable"), (0, .class_ 1113), (0, u "java/lang/constant/ConstantDesc"), (2, u "serialVersionUID"), (0, u "J"), (3, u "REPL"), (0, u "C"), (2, u "LATIN1"), (1, u "UTF16")] 323

def k7m0 : Method := { name := "<init>", desc := "()V", sig := { parameters := [], returnType := none }, accessFlags := 1, code := none }
def k7c1 : Code := { maxStack := 5, maxLocals := 2, code := jdk_42_method_3_code, exceptionTable := #[], attributes := #[] }
def k7m1 : Method := { name := "<init>", desc := "([C)V", sig := { parameters := [(.array .char)], returnType := none }, accessFlags := 1, code := some k7c1 }
def k7c2 : Code := { maxStack := 2, maxLocals := 1, code := jdk_42_method_54_code, exceptionTable := #[], attributes := #[] }
def k7m2 : Method := { name := "length", desc := "()I", sig := { parameters := [], returnType := some .int }, accessFlags := 1, code := some k7c2 }
def k7c3 : Code := { maxStack := 2, maxLocals := 2, code := jdk_42_method_56_code, exceptionTable := #[], attributes := #[] }
def k7m3 : Method := { name := "charAt", desc := "(I)C", sig := { parameters := [.int], returnType := some .char }, accessFlags := 1, code := some k7c3 }
def k7c4 : Code := { maxStack := 4, maxLocals := 6, code := jdk_42_method_149_code, exceptionTable := #[], attributes := #[] }
def k7m4 : Method := { name := "<init>", desc := "([CIILjava/lang/Void;)V", sig := { parameters := [(.array .char), .int, .int, (.object "java/lang/Void")], returnType := none }, accessFlags := 2, code := some k7c4 }
def k7c5 : Code := { maxStack := 1, maxLocals := 1, code := jdk_42_method_152_code, exceptionTable := #[], attributes := #[] }
def k7m5 : Method := { name := "coder", desc := "()B", sig := { parameters := [], returnType := some .byte }, accessFlags := 0, code := some k7c5 }
def k7c6 : Code := { maxStack := 1, maxLocals := 1, code := jdk_42_method_154_code, exceptionTable := #[], attributes := #[] }
def k7m6 : Method := { name := "isLatin1", desc := "()Z", sig := { parameters := [], returnType := some .boolean }, accessFlags := 0, code := some k7c6 }
def k7c7 : Code := { maxStack := 3, maxLocals := 2, code := jdk_42_method_155_code, exceptionTable := #[], attributes := #[] }
def k7m7 : Method := { name := "checkIndex", desc := "(II)V", sig := { parameters := [.int, .int], returnType := none }, accessFlags := 8, code := some k7c7 }
/-- java/lang/String -/
def k7 : Class := { plain "java/lang/String" (some 0) with
  accessFlags := 49
  interfaces := #[2, 3, 4, 5, 6]
  cf := some (fileOf pool7 10 #[.nestMembers #[1103]] #[{ accessFlags := 1, nameIndex := 5, descriptorIndex := 6, attributes := #[] }, { accessFlags := 1, nameIndex := 5, descriptorIndex := 1010, attributes := #[] }, { accessFlags := 1, nameIndex := 507, descriptorIndex := 334, attributes := #[] }, { accessFlags := 1, nameIndex := 497, descriptorIndex := 427, attributes := #[] }, { accessFlags := 2, nameIndex := 5, descriptorIndex := 29, attributes := #[] }, { accessFlags := 0, nameIndex := 17, descriptorIndex := 337, attributes := #[] }, { accessFlags := 0, nameIndex := 494, descriptorIndex := 142, attributes := #[] }, { accessFlags := 8, nameIndex := 501, descriptorIndex := 391, attributes := #[] }] 49 2 #[1106, 1108, 575, 1110, 1112] #[{ accessFlags := 18, nameIndex := 13, descriptorIndex := 14, attributes := #[] }, { accessFlags := 18, nameIndex := 17, descriptorIndex := 18, attributes := #[] }, { accessFlags := 2, nameIndex := 21, descriptorIndex := 22, attributes := #[] }, { accessFlags := 2, nameIndex := 25, descriptorIndex := 26, attributes := #[] }, { accessFlags := 26, nameIndex := 1116, descriptorIndex := 1117, attributes := #[] }, { accessFlags := 24, nameIndex := 40, descriptorIndex := 26, attributes := #[] }, { accessFlags := 26, nameIndex := 1101, descriptorIndex := 1102, attributes := #[] }, { accessFlags := 26, nameIndex := 1121, descriptorIndex := 1122, attributes := #[] }, { accessFlags := 25, nameIndex := 599, descriptorIndex := 600, attributes := #[] }, { accessFlags := 24, nameIndex := 1125, descriptorIndex := 18, attributes := #[] }, { accessFlags := 24, nameIndex := 1127, descriptorIndex := 18, attributes := #[] }])
  fields := #[{ name := "value", type := (.array .byte), accessFlags := 18, slot := 0, constantValue := 0 }, { name := "coder", type := .byte, accessFlags := 18, slot := 1, constantValue := 0 }, { name := "hash", type := .int, accessFlags := 2, slot := 2, constantValue := 0 }, { name := "hashIsZero", type := .boolean, accessFlags := 2, slot := 3, constantValue := 0 }, { name := "serialVersionUID", type := .long, accessFlags := 26, slot := 0, constantValue := 0 }, { name := "COMPACT_STRINGS", type := .boolean, accessFlags := 24, slot := 1, constantValue := 0 }, { name := "serialPersistentFields", type := (.array (.object "java/io/ObjectStreamField")), accessFlags := 26, slot := 2, constantValue := 0 }, { name := "REPL", type := .char, accessFlags := 26, slot := 3, constantValue := 0 }, { name := "CASE_INSENSITIVE_ORDER", type := (.object "java/util/Comparator"), accessFlags := 25, slot := 4, constantValue := 0 }, { name := "LATIN1", type := .byte, accessFlags := 24, slot := 5, constantValue := 0 }, { name := "UTF16", type := .byte, accessFlags := 24, slot := 6, constantValue := 0 }]
  methods := #[k7m0, k7m1, k7m2, k7m3, k7m4, k7m5, k7m6, k7m7]
  instanceTypes := #[(.array .byte), .byte, .int, .boolean]
  staticTypes := #[.long, .boolean, (.array (.object "java/io/ObjectStreamField")), .char, (.object "java/util/Comparator"), .byte, .byte]
  resolved := Array.replicate 1451 none
  statics := some 0 }

def pool8 : Array CpInfo := pool [(1, .methodref 2 3), (0, .class_ 4), (0, .nameAndType 5 6), (0, u "java/lang/Object"), (0, u "<init>"), (0, u "()V"), (0, .fieldref 8 9), (0, .class_ 10), (0, .nameAndType 11 12), (0, u "com/example/colonnade/colonnade/WordBuffer"), (0, u "chars"), (0, u "[C"), (0, .fieldref 8 14), (0, .nameAndType 15 16), (0, u "length"), (0, u "I"), (0, .methodref 8 18), (0, .nameAndType 19 20), (0, u "matches"), (0, u "(Ljava/lang/String;Z)Z"), (0, .methodref 22 23), (0, .class_ 24), (0, .nameAndType 15 25), (0, u "java/lang/String"), (0, u "()I"), (0, .methodref 22 27), (0, .nameAndType 28 29), (0, u "charAt"), (0, u "(I)C"), (0, u "(I)V"), (3, u "add"), (0, u "(C)V"), (1, u "isEmpty"), (0, u "()Z"), (1, u "(Ljava/lang/String;)Z"), (0, u "isExactly")] 2

def k8c0 : Code := { maxStack := 2, maxLocals := 2, code := prog_114_method_1_code, exceptionTable := #[], attributes := #[] }
def k8m0 : Method := { name := "<init>", desc := "(I)V", sig := { parameters := [.int], returnType := none }, accessFlags := 0, code := some k8c0 }
def k8c1 : Code := { maxStack := 3, maxLocals := 2, code := prog_114_method_3_code, exceptionTable := #[], attributes := #[] }
def k8m1 : Method := { name := "add", desc := "(C)V", sig := { parameters := [.char], returnType := none }, accessFlags := 0, code := some k8c1 }
def k8c2 : Code := { maxStack := 1, maxLocals := 1, code := prog_114_method_4_code, exceptionTable := #[], attributes := #[] }
def k8m2 : Method := { name := "isEmpty", desc := "()Z", sig := { parameters := [], returnType := some .boolean }, accessFlags := 0, code := some k8c2 }
def k8c3 : Code := { maxStack := 3, maxLocals := 2, code := prog_114_method_6_code, exceptionTable := #[], attributes := #[] }
def k8m3 : Method := { name := "isExactly", desc := "(Ljava/lang/String;)Z", sig := { parameters := [(.object "java/lang/String")], returnType := some .boolean }, accessFlags := 0, code := some k8c3 }
def k8c4 : Code := { maxStack := 3, maxLocals := 6, code := prog_114_method_7_code, exceptionTable := #[], attributes := #[] }
def k8m4 : Method := { name := "matches", desc := "(Ljava/lang/String;Z)Z", sig := { parameters := [(.object "java/lang/String"), .boolean], returnType := some .boolean }, accessFlags := 2, code := some k8c4 }
/-- com/example/colonnade/colonnade/WordBuffer -/
def k8 : Class := { plain "com/example/colonnade/colonnade/WordBuffer" (some 0) with
  accessFlags := 48
  interfaces := #[]
  cf := some (fileOf pool8 8 #[] #[{ accessFlags := 0, nameIndex := 5, descriptorIndex := 30, attributes := #[] }, { accessFlags := 0, nameIndex := 34, descriptorIndex := 35, attributes := #[] }, { accessFlags := 0, nameIndex := 37, descriptorIndex := 38, attributes := #[] }, { accessFlags := 0, nameIndex := 41, descriptorIndex := 40, attributes := #[] }, { accessFlags := 2, nameIndex := 19, descriptorIndex := 20, attributes := #[] }] 48 2 #[] #[{ accessFlags := 18, nameIndex := 11, descriptorIndex := 12, attributes := #[] }, { accessFlags := 2, nameIndex := 15, descriptorIndex := 16, attributes := #[] }])
  fields := #[{ name := "chars", type := (.array .char), accessFlags := 18, slot := 0, constantValue := 0 }, { name := "length", type := .int, accessFlags := 2, slot := 1, constantValue := 0 }]
  methods := #[k8m0, k8m1, k8m2, k8m3, k8m4]
  instanceTypes := #[(.array .char), .int]
  staticTypes := #[]
  resolved := Array.replicate 44 none
  statics := none }

def pool9 : Array CpInfo := pool [(3, .class_ 4), (0, u "java/lang/String"), (1, .class_ 8), (1, u "java/lang/Object"), (0, u "<init>"), (0, u "()V"), (0, .methodref 12 13), (0, .class_ 14), (0, .nameAndType 15 16), (0, u "java/lang/StringUTF16"), (0, u "newBytesLength"), (0, u "(I)I"), (3, .integer 1073741823), (23, .fieldref 12 45), (0, .nameAndType 46 47), (0, u "$assertionsDisabled"), (0, u "Z"), (0, .methodref 12 49), (0, .nameAndType 50 51), (0, u "length"), (0, u "([B)I"), (7, .fieldref 12 60), (0, .nameAndType 61 62), (0, u "HI_BYTE_SHIFT"), (0, u "I"), (0, .fieldref 12 64), (0, .nameAndType 65 62), (0, u "LO_BYTE_SHIFT"), (1, .methodref 12 68), (0, .nameAndType 69 70), (0, u "checkIndex"), (0, u "(I[B)V"), (0, .methodref 12 72), (0, .nameAndType 73 74), (0, u "getChar"), (0, u "([BI)C"), (32, .methodref 12 108), (0, .nameAndType 109 110), (0, u "newBytesFor"), (0, u "(I)[B"), (0, .methodref 12 112), (0, .nameAndType 113 114), (0, u "putChar"), (0, u "([BII)V"), (0, .methodref 12 116), (0, .nameAndType 117 118), (0, u "compress"), (0, u "([CI[BII)I"), (0, .methodref 12 120), (0, .nameAndType 121 122), (0, u "toBytes"), (0, u "([CII)[B"), (138, u "coderFromArrayLen"), (0, u "([BI)B"), (106, .class_ 371), (1, u "java/lang/StringUTF16$LinesSpliterator"), (20, u "charAt"), (21, .methodref 3 415), (0, .nameAndType 69 416), (0, u "(II)V"), (13, u "MAX_LENGTH"), (196, .class_ 628), (0, u "java/lang/StringUTF16$CodePointsSpliterator"), (0, .class_ 630), (0, u "java/lang/StringUTF16$CharsSpliterator")] 4

def k9m0 : Method := { name := "<init>", desc := "()V", sig := { parameters := [], returnType := none }, accessFlags := 0, code := none }
def k9c1 : Code := { maxStack := 1, maxLocals := 1, code := jdk_52_method_2_code, exceptionTable := #[], attributes := #[] }
def k9m1 : Method := { name := "newBytesFor", desc := "(I)[B", sig := { parameters := [.int], returnType := some (.array .byte) }, accessFlags := 9, code := some k9c1 }
def k9c2 : Code := { maxStack := 4, maxLocals := 1, code := jdk_52_method_3_code, exceptionTable := #[], attributes := #[] }
def k9m2 : Method := { name := "newBytesLength", desc := "(I)I", sig := { parameters := [.int], returnType := some .int }, accessFlags := 9, code := some k9c2 }
def k9c3 : Code := { maxStack := 4, maxLocals := 3, code := jdk_52_method_4_code, exceptionTable := #[], attributes := #[] }
def k9m3 : Method := { name := "putChar", desc := "([BII)V", sig := { parameters := [(.array .byte), .int, .int], returnType := none }, accessFlags := 8, code := some k9c3 }
def k9c4 : Code := { maxStack := 3, maxLocals := 2, code := jdk_52_method_5_code, exceptionTable := #[], attributes := #[] }
def k9m4 : Method := { name := "getChar", desc := "([BI)C", sig := { parameters := [(.array .byte), .int], returnType := some .char }, accessFlags := 8, code := some k9c4 }
def k9c5 : Code := { maxStack := 2, maxLocals := 1, code := jdk_52_method_6_code, exceptionTable := #[], attributes := #[] }
def k9m5 : Method := { name := "length", desc := "([B)I", sig := { parameters := [(.array .byte)], returnType := some .int }, accessFlags := 9, code := some k9c5 }
def k9c6 : Code := { maxStack := 4, maxLocals := 5, code := jdk_52_method_14_code, exceptionTable := #[], attributes := #[] }
def k9m6 : Method := { name := "toBytes", desc := "([CII)[B", sig := { parameters := [(.array .char), .int, .int], returnType := some (.array .byte) }, accessFlags := 9, code := some k9c6 }
def k9c7 : Code := { maxStack := 2, maxLocals := 2, code := jdk_52_method_15_code, exceptionTable := #[], attributes := #[] }
def k9m7 : Method := { name := "coderFromArrayLen", desc := "([BI)B", sig := { parameters := [(.array .byte), .int], returnType := some .byte }, accessFlags := 8, code := some k9c7 }
def k9c8 : Code := { maxStack := 5, maxLocals := 6, code := jdk_52_method_16_code, exceptionTable := #[], attributes := #[] }
def k9m8 : Method := { name := "compress", desc := "([CII)[B", sig := { parameters := [(.array .char), .int, .int], returnType := some (.array .byte) }, accessFlags := 9, code := some k9c8 }
def k9c9 : Code := { maxStack := 3, maxLocals := 7, code := jdk_52_method_21_code, exceptionTable := #[], attributes := #[] }
def k9m9 : Method := { name := "compress", desc := "([CI[BII)I", sig := { parameters := [(.array .char), .int, (.array .byte), .int, .int], returnType := some .int }, accessFlags := 9, code := some k9c9 }
def k9c10 : Code := { maxStack := 2, maxLocals := 2, code := jdk_52_method_83_code, exceptionTable := #[], attributes := #[] }
def k9m10 : Method := { name := "charAt", desc := "([BI)C", sig := { parameters := [(.array .byte), .int], returnType := some .char }, accessFlags := 9, code := some k9c10 }
def k9c11 : Code := { maxStack := 2, maxLocals := 2, code := jdk_52_method_91_code, exceptionTable := #[], attributes := #[] }
def k9m11 : Method := { name := "checkIndex", desc := "(I[B)V", sig := { parameters := [.int, (.array .byte)], returnType := none }, accessFlags := 9, code := some k9c11 }
/-- java/lang/StringUTF16 -/
def k9 : Class := { plain "java/lang/StringUTF16" (some 0) with
  accessFlags := 48
  interfaces := #[]
  cf := some (fileOf pool9 12 #[.nestMembers #[627, 629, 369]] #[{ accessFlags := 0, nameIndex := 9, descriptorIndex := 10, attributes := #[] }, { accessFlags := 9, nameIndex := 109, descriptorIndex := 110, attributes := #[] }, { accessFlags := 9, nameIndex := 15, descriptorIndex := 16, attributes := #[] }, { accessFlags := 8, nameIndex := 113, descriptorIndex := 114, attributes := #[] }, { accessFlags := 8, nameIndex := 73, descriptorIndex := 74, attributes := #[] }, { accessFlags := 9, nameIndex := 50, descriptorIndex := 51, attributes := #[] }, { accessFlags := 9, nameIndex := 121, descriptorIndex := 122, attributes := #[] }, { accessFlags := 8, nameIndex := 261, descriptorIndex := 262, attributes := #[] }, { accessFlags := 9, nameIndex := 117, descriptorIndex := 122, attributes := #[] }, { accessFlags := 9, nameIndex := 117, descriptorIndex := 118, attributes := #[] }, { accessFlags := 9, nameIndex := 392, descriptorIndex := 74, attributes := #[] }, { accessFlags := 9, nameIndex := 69, descriptorIndex := 70, attributes := #[] }] 48 6 #[] #[{ accessFlags := 26, nameIndex := 61, descriptorIndex := 62, attributes := #[] }, { accessFlags := 26, nameIndex := 65, descriptorIndex := 62, attributes := #[] }, { accessFlags := 24, nameIndex := 430, descriptorIndex := 62, attributes := #[] }, { accessFlags := 4120, nameIndex := 46, descriptorIndex := 47, attributes := #[] }])
  fields := #[{ name := "HI_BYTE_SHIFT", type := .int, accessFlags := 26, slot := 0, constantValue := 0 }, { name := "LO_BYTE_SHIFT", type := .int, accessFlags := 26, slot := 1, constantValue := 0 }, { name := "MAX_LENGTH", type := .int, accessFlags := 24, slot := 2, constantValue := 0 }, { name := "$assertionsDisabled", type := .boolean, accessFlags := 4120, slot := 3, constantValue := 0 }]
  methods := #[k9m0, k9m1, k9m2, k9m3, k9m4, k9m5, k9m6, k9m7, k9m8, k9m9, k9m10, k9m11]
  instanceTypes := #[]
  staticTypes := #[.int, .int, .int, .boolean]
  resolved := Array.replicate 635 none
  statics := some 1 }

def pool10 : Array CpInfo := pool [(2, .class_ 4), (1, u "java/lang/Object"), (0, u "<init>"), (0, u "()V"), (17, .class_ 26), (1, u "jdk/internal/util/Preconditions"), (6, u "checkIndex"), (21, .class_ 56), (0, u "jdk/internal/util/Preconditions$4"), (57, .class_ 115), (0, u "jdk/internal/util/Preconditions$1"), (7, u "SIOOBE_FORMATTER"), (0, u "Ljava/util/function/BiFunction;"), (0, .class_ 126), (0, u "jdk/internal/util/Preconditions$2"), (3, u "AIOOBE_FORMATTER"), (0, .class_ 132), (0, u "jdk/internal/util/Preconditions$3"), (3, u "IOOBE_FORMATTER"), (41, u "(IILjava/util/function/BiFunction;)I")] 15

def k10m0 : Method := { name := "<init>", desc := "()V", sig := { parameters := [], returnType := none }, accessFlags := 1, code := none }
def k10c1 : Code := { maxStack := 3, maxLocals := 3, code := jdk_41_method_11_code, exceptionTable := #[], attributes := #[] }
def k10m1 : Method := { name := "checkIndex", desc := "(IILjava/util/function/BiFunction;)I", sig := { parameters := [.int, .int, (.object "java/util/function/BiFunction")], returnType := some .int }, accessFlags := 9, code := some k10c1 }
/-- jdk/internal/util/Preconditions -/
def k10 : Class := { plain "jdk/internal/util/Preconditions" (some 0) with
  accessFlags := 33
  interfaces := #[]
  cf := some (fileOf pool10 24 #[.nestMembers #[55, 131, 125, 114]] #[{ accessFlags := 1, nameIndex := 5, descriptorIndex := 6, attributes := #[] }, { accessFlags := 9, nameIndex := 33, descriptorIndex := 178, attributes := #[] }] 33 2 #[] #[{ accessFlags := 25, nameIndex := 123, descriptorIndex := 124, attributes := #[] }, { accessFlags := 25, nameIndex := 130, descriptorIndex := 124, attributes := #[] }, { accessFlags := 25, nameIndex := 136, descriptorIndex := 124, attributes := #[] }])
  fields := #[{ name := "SIOOBE_FORMATTER", type := (.object "java/util/function/BiFunction"), accessFlags := 25, slot := 0, constantValue := 0 }, { name := "AIOOBE_FORMATTER", type := (.object "java/util/function/BiFunction"), accessFlags := 25, slot := 1, constantValue := 0 }, { name := "IOOBE_FORMATTER", type := (.object "java/util/function/BiFunction"), accessFlags := 25, slot := 2, constantValue := 0 }]
  methods := #[k10m0, k10m1]
  instanceTypes := #[]
  staticTypes := #[(.object "java/util/function/BiFunction"), (.object "java/util/function/BiFunction"), (.object "java/util/function/BiFunction")]
  resolved := Array.replicate 194 none
  statics := some 2 }

def pool11 : Array CpInfo := pool [(1, .class_ 2), (0, u "java/lang/String"), (1, .class_ 6), (1, u "java/lang/Object"), (0, u "<init>"), (0, u "()V"), (0, .methodref 1 10), (0, .nameAndType 11 12), (0, u "checkIndex"), (0, u "(II)V"), (1, .class_ 16), (1, u "java/lang/StringLatin1"), (36, u "([BI)C"), (67, u "$assertionsDisabled"), (0, u "Z"), (98, .class_ 223), (1, u "java/lang/StringLatin1$LinesSpliterator"), (28, u "charAt"), (137, .class_ 391), (0, u "java/lang/StringLatin1$CharsSpliterator")] 3

def k11m0 : Method := { name := "<init>", desc := "()V", sig := { parameters := [], returnType := none }, accessFlags := 0, code := none }
def k11c1 : Code := { maxStack := 2, maxLocals := 2, code := jdk_43_method_2_code, exceptionTable := #[], attributes := #[] }
def k11m1 : Method := { name := "charAt", desc := "([BI)C", sig := { parameters := [(.array .byte), .int], returnType := some .char }, accessFlags := 9, code := some k11c1 }
/-- java/lang/StringLatin1 -/
def k11 : Class := { plain "java/lang/StringLatin1" (some 0) with
  accessFlags := 48
  interfaces := #[]
  cf := some (fileOf pool11 14 #[.nestMembers #[390, 221]] #[{ accessFlags := 0, nameIndex := 7, descriptorIndex := 8, attributes := #[] }, { accessFlags := 9, nameIndex := 252, descriptorIndex := 53, attributes := #[] }] 48 4 #[] #[{ accessFlags := 4120, nameIndex := 121, descriptorIndex := 122, attributes := #[] }])
  fields := #[{ name := "$assertionsDisabled", type := .boolean, accessFlags := 4120, slot := 0, constantValue := 0 }]
  methods := #[k11m0, k11m1]
  instanceTypes := #[]
  staticTypes := #[.boolean]
  resolved := Array.replicate 395 none
  statics := none }

def pool12 : Array CpInfo := pool [(9, u "<init>"), (6, .class_ 18), (1, u "java/lang/Object"), (0, u "()V"), (1, .class_ 23), (1, u "jdk/internal/util/ArraysSupport"), (0, u "LOG2_ARRAY_LONG_INDEX_SCALE"), (0, u "I"), (2, u "U"), (0, u "Ljdk/internal/misc/Unsafe;"), (8, u "BIG_ENDIAN"), (0, u "Z"), (8, u "LOG2_BYTE_BIT_SIZE"), (4, u "LOG2_ARRAY_INT_INDEX_SCALE"), (54, u "JLA"), (0, u "Ljdk/internal/access/JavaLangAccess;"), (11, u "LOG2_ARRAY_BOOLEAN_INDEX_SCALE"), (9, u "LOG2_ARRAY_BYTE_INDEX_SCALE"), (5, u "LOG2_ARRAY_CHAR_INDEX_SCALE"), (5, u "LOG2_ARRAY_SHORT_INDEX_SCALE"), (18, u "LOG2_ARRAY_FLOAT_INDEX_SCALE"), (24, u "LOG2_ARRAY_DOUBLE_INDEX_SCALE"), (89, u "T_BOOLEAN"), (2, u "T_CHAR"), (1, u "T_FLOAT"), (1, u "T_DOUBLE"), (1, u "T_BYTE"), (1, u "T_SHORT"), (1, u "T_INT"), (1, u "T_LONG"), (1, u "SOFT_MAX_ARRAY_LENGTH")] 83

def k12m0 : Method := { name := "<init>", desc := "()V", sig := { parameters := [], returnType := none }, accessFlags := 2, code := none }
/-- jdk/internal/util/ArraysSupport -/
def k12 : Class := { plain "jdk/internal/util/ArraysSupport" (some 0) with
  accessFlags := 33
  interfaces := #[]
  cf := some (fileOf pool12 21 #[] #[{ accessFlags := 2, nameIndex := 9, descriptorIndex := 19, attributes := #[] }] 33 16 #[] #[{ accessFlags := 24, nameIndex := 28, descriptorIndex := 29, attributes := #[] }, { accessFlags := 26, nameIndex := 38, descriptorIndex := 39, attributes := #[] }, { accessFlags := 25, nameIndex := 121, descriptorIndex := 25, attributes := #[] }, { accessFlags := 25, nameIndex := 131, descriptorIndex := 25, attributes := #[] }, { accessFlags := 25, nameIndex := 137, descriptorIndex := 25, attributes := #[] }, { accessFlags := 25, nameIndex := 143, descriptorIndex := 25, attributes := #[] }, { accessFlags := 25, nameIndex := 53, descriptorIndex := 25, attributes := #[] }, { accessFlags := 25, nameIndex := 24, descriptorIndex := 25, attributes := #[] }, { accessFlags := 25, nameIndex := 162, descriptorIndex := 25, attributes := #[] }, { accessFlags := 25, nameIndex := 187, descriptorIndex := 25, attributes := #[] }, { accessFlags := 26, nameIndex := 48, descriptorIndex := 25, attributes := #[] }, { accessFlags := 25, nameIndex := 277, descriptorIndex := 25, attributes := #[] }, { accessFlags := 25, nameIndex := 280, descriptorIndex := 25, attributes := #[] }, { accessFlags := 25, nameIndex := 282, descriptorIndex := 25, attributes := #[] }, { accessFlags := 25, nameIndex := 284, descriptorIndex := 25, attributes := #[] }, { accessFlags := 25, nameIndex := 286, descriptorIndex := 25, attributes := #[] }, { accessFlags := 25, nameIndex := 288, descriptorIndex := 25, attributes := #[] }, { accessFlags := 25, nameIndex := 290, descriptorIndex := 25, attributes := #[] }, { accessFlags := 25, nameIndex := 292, descriptorIndex := 25, attributes := #[] }, { accessFlags := 26, nameIndex := 108, descriptorIndex := 109, attributes := #[] }, { accessFlags := 25, nameIndex := 294, descriptorIndex := 25, attributes := #[] }])
  fields := #[{ name := "U", type := (.object "jdk/internal/misc/Unsafe"), accessFlags := 24, slot := 0, constantValue := 0 }, { name := "BIG_ENDIAN", type := .boolean, accessFlags := 26, slot := 1, constantValue := 0 }, { name := "LOG2_ARRAY_BOOLEAN_INDEX_SCALE", type := .int, accessFlags := 25, slot := 2, constantValue := 0 }, { name := "LOG2_ARRAY_BYTE_INDEX_SCALE", type := .int, accessFlags := 25, slot := 3, constantValue := 0 }, { name := "LOG2_ARRAY_CHAR_INDEX_SCALE", type := .int, accessFlags := 25, slot := 4, constantValue := 0 }, { name := "LOG2_ARRAY_SHORT_INDEX_SCALE", type := .int, accessFlags := 25, slot := 5, constantValue := 0 }, { name := "LOG2_ARRAY_INT_INDEX_SCALE", type := .int, accessFlags := 25, slot := 6, constantValue := 0 }, { name := "LOG2_ARRAY_LONG_INDEX_SCALE", type := .int, accessFlags := 25, slot := 7, constantValue := 0 }, { name := "LOG2_ARRAY_FLOAT_INDEX_SCALE", type := .int, accessFlags := 25, slot := 8, constantValue := 0 }, { name := "LOG2_ARRAY_DOUBLE_INDEX_SCALE", type := .int, accessFlags := 25, slot := 9, constantValue := 0 }, { name := "LOG2_BYTE_BIT_SIZE", type := .int, accessFlags := 26, slot := 10, constantValue := 0 }, { name := "T_BOOLEAN", type := .int, accessFlags := 25, slot := 11, constantValue := 0 }, { name := "T_CHAR", type := .int, accessFlags := 25, slot := 12, constantValue := 0 }, { name := "T_FLOAT", type := .int, accessFlags := 25, slot := 13, constantValue := 0 }, { name := "T_DOUBLE", type := .int, accessFlags := 25, slot := 14, constantValue := 0 }, { name := "T_BYTE", type := .int, accessFlags := 25, slot := 15, constantValue := 0 }, { name := "T_SHORT", type := .int, accessFlags := 25, slot := 16, constantValue := 0 }, { name := "T_INT", type := .int, accessFlags := 25, slot := 17, constantValue := 0 }, { name := "T_LONG", type := .int, accessFlags := 25, slot := 18, constantValue := 0 }, { name := "JLA", type := (.object "jdk/internal/access/JavaLangAccess"), accessFlags := 26, slot := 19, constantValue := 0 }, { name := "SOFT_MAX_ARRAY_LENGTH", type := .int, accessFlags := 25, slot := 20, constantValue := 0 }]
  methods := #[k12m0]
  instanceTypes := #[]
  staticTypes := #[(.object "jdk/internal/misc/Unsafe"), .boolean, .int, .int, .int, .int, .int, .int, .int, .int, .int, .int, .int, .int, .int, .int, .int, .int, .int, (.object "jdk/internal/access/JavaLangAccess"), .int]
  resolved := Array.replicate 378 none
  statics := none }

def pool13 : Array CpInfo := pool [(1, u "java/lang/Cloneable"), (0, .class_ 1), (0, u "java/lang/Object"), (0, .class_ 3)] 3

/-- java/lang/Cloneable -/
def k13 : Class := { plain "java/lang/Cloneable" (some 0) with
  accessFlags := 1537
  interfaces := #[]
  cf := some (fileOf pool13 2 #[] #[] 1537 4 #[] #[])
  fields := #[]
  methods := #[]
  instanceTypes := #[]
  staticTypes := #[]
  resolved := Array.replicate 8 none
  statics := none }

/-- the primitive byte -/
def k14 : Class := { plain "byte" none with kind := .primitive 'B', accessFlags := 0x411 }
/-- [B -/
def k15 : Class := { plain "[B" (some 0) with kind := .array 14 .byte, interfaces := #[13, 2], accessFlags := 1041 }

/-- the primitive char -/
def k16 : Class := { plain "char" none with kind := .primitive 'C', accessFlags := 0x411 }
/-- [C -/
def k17 : Class := { plain "[C" (some 0) with kind := .array 16 .char, interfaces := #[13, 2], accessFlags := 1041 }

/-- the primitive int -/
def k18 : Class := { plain "int" none with kind := .primitive 'I', accessFlags := 0x411 }
/-- [I -/
def k19 : Class := { plain "[I" (some 0) with kind := .array 18 .int, interfaces := #[13, 2], accessFlags := 1041 }

def heap : Heap := #[{ cls := 7, slots := #[.long 0, .int 1, .null, .int 0, .null, .int 0, .int 0], vm := .statics 7 },
  { cls := 9, slots := #[.int 0, .int 8, .int 0, .int 1], vm := .statics 9 },
  { cls := 10, slots := #[.null, .null, .null], vm := .statics 10 }]
def classes : Array Class := #[k0, k1, k2, k3, k4, k5, k6, k7, k8, k9, k10, k11, k12, k13, k14, k15, k16, k17, k18, k19]
def interned : List (Array UInt16 × Addr) := []
def slotsUsed : Nat := 14
def theMethod : MethodId := ⟨1, 2⟩
def args0 : Array Value := #[.int 5, .int 5, .int 5, .int 5, .int 5]
def aboutOver (below : List Frame) : State where
  vm := { classes := classes, interned := interned.toArray }
  heap := heap
  slotsUsed := slotsUsed
  threads := #[{ frames := .invoking theMethod args0 :: below }]
def below0 : List Frame := [.native { method := ⟨0, 0⟩, args := #[] }]
def about1 : State := aboutOver below0
def p0 : Program := .bare "" "" ""
def e0 : Env := launch0.env 0 0 0
theorem w_frames : about1.frames = Frame.invoking theMethod args0 :: below0 := rfl
set_option maxRecDepth 65536 in
theorem w_args : argsFit about1.vm theMethod args0 = true := by decide +kernel
set_option maxRecDepth 65536 in
theorem w_heap : heapFits about1 = true := by decide +kernel
set_option maxRecDepth 65536 in
theorem w_runnable : about1.curStatus? = some .runnable := by decide +kernel
set_option maxRecDepth 65536 in
theorem w_alone : about1.alone = true := by decide +kernel
set_option maxRecDepth 65536 in
theorem w_named : about1.methodNamed? x = some theMethod := by decide +kernel
set_option maxRecDepth 65536 in
theorem w_hears : about1.hears theMethod below0 = true := by decide +kernel
set_option maxRecDepth 65536 in
theorem w_ripe : about1.ripe theMethod args0 below0 = true := by decide +kernel
theorem w_running : about1.status = .running := rfl
set_option maxRecDepth 65536 in
theorem w_room : about1.hasRoom e0.platform room_1 = true :=
  launch0.hasRoom_least _ room_1 (by decide +kernel) (by decide +kernel) (by decide +kernel) (by decide +kernel) (by decide +kernel) (by decide +kernel)
theorem allAtoms_all (ts : List Jvm.Cond) (a : Array Jvm.Value) (st : Jvm.State) : (allAtoms ts).before a st = ts.all (fun c => c.before a st) := by
  induction ts with
  | nil => rfl
  | cons c t ih =>
    show (Jvm.Cond.and c (allAtoms t)).before a st = _
    rw [Jvm.Cond.before_and, ih, List.all_cons]
def words1 : List Jvm.Cond := Jvm.Cond.code x code maxLocals ret :: tables_1
/-- a 'code' word, met by the world's own term for the bytes: nothing is compared byte by byte -/
theorem code_word {y : MethodName} {bytes : ByteArray} {mx : Nat} {rt : Option FieldType} {a : Array Value} {s : State} {m : MethodId} {meth : Method} {c : Code} (h1 : s.methodNamed? y = some m) (h2 : s.vm.method? m = some meth) (h3 : meth.code = some c) (h4 : c.code = bytes)
    (h5 : (c.maxLocals == mx && c.exceptionTable.isEmpty && decide (c.maxStack ≤ mostOperands) && decide (meth.sig.returnType = rt) && !meth.locks && decide (parseMethodDescriptor y.desc = some meth.sig)) = true) : (Jvm.Cond.code y bytes mx rt).before a s = true := by
  simp only [Bool.and_eq_true, beq_iff_eq, Bool.not_eq_true', decide_eq_true_eq] at h5
  obtain ⟨⟨⟨⟨⟨g1, g2⟩, g3⟩, g4⟩, g5⟩, g6⟩ := h5
  simp [Cond.before, Cond.holds, Cond.value, h1, h2, h3, h4, g1, g2, g3, g4, g5, g6]
def isCode : Jvm.Cond → Bool
  | .code _ _ _ _ => true
  | _ => false
theorem all_split {L : List Jvm.Cond} {P : Jvm.Cond → Bool} (h1 : L.all (fun c => isCode c || P c) = true) (h2 : ∀ c ∈ L.filter isCode, P c = true) : L.all P = true := by
  refine List.all_eq_true.mpr fun c hc => ?_
  have h := List.all_eq_true.mp h1 c hc
  rcases Bool.eq_false_or_eq_true (isCode c) with hi | hi
  · exact h2 c (List.mem_filter.mpr ⟨hc, hi⟩)
  · simpa [hi] using h
set_option maxRecDepth 65536 in
theorem w_c0 : (Jvm.Cond.code x code maxLocals ret).before args0 about1 = true := code_word (m := ⟨1, 2⟩) (meth := k1m2) (c := k1c2) (by decide +kernel) rfl rfl rfl (by decide +kernel)
set_option maxRecDepth 65536 in
theorem w_c1 : (Jvm.Cond.code ({ cls := "com/example/colonnade/colonnade/WordBufferAddPinLaw", name := "prefix", desc := "(ICCC)Ljava/lang/String;" } : Jvm.MethodName) method_2_code (5 : Nat) (Option.some (Jvm.ClassFile.FieldType.object "java/lang/String"))).before args0 about1 = true := code_word (m := ⟨1, 1⟩) (meth := k1m1) (c := k1c1) (by decide +kernel) rfl rfl rfl (by decide +kernel)
set_option maxRecDepth 65536 in
theorem w_c2 : (Jvm.Cond.code ({ cls := "java/lang/String", name := "<init>", desc := "([C)V" } : Jvm.MethodName) jdk_42_method_3_code (2 : Nat) (Option.none : Option Jvm.ClassFile.FieldType)).before args0 about1 = true := code_word (m := ⟨7, 1⟩) (meth := k7m1) (c := k7c1) (by decide +kernel) rfl rfl rfl (by decide +kernel)
set_option maxRecDepth 65536 in
theorem w_c3 : (Jvm.Cond.code ({ cls := "java/lang/String", name := "<init>", desc := "([CIILjava/lang/Void;)V" } : Jvm.MethodName) jdk_42_method_149_code (6 : Nat) (Option.none : Option Jvm.ClassFile.FieldType)).before args0 about1 = true := code_word (m := ⟨7, 4⟩) (meth := k7m4) (c := k7c4) (by decide +kernel) rfl rfl rfl (by decide +kernel)
set_option maxRecDepth 65536 in
theorem w_c4 : (Jvm.Cond.code ({ cls := "java/lang/Object", name := "<init>", desc := "()V" } : Jvm.MethodName) object_method_1_code (1 : Nat) (Option.none : Option Jvm.ClassFile.FieldType)).before args0 about1 = true := code_word (m := ⟨0, 0⟩) (meth := k0m0) (c := k0c0) (by decide +kernel) rfl rfl rfl (by decide +kernel)
set_option maxRecDepth 65536 in
theorem w_c5 : (Jvm.Cond.code ({ cls := "com/example/colonnade/colonnade/WordBuffer", name := "<init>", desc := "(I)V" } : Jvm.MethodName) prog_114_method_1_code (2 : Nat) (Option.none : Option Jvm.ClassFile.FieldType)).before args0 about1 = true := code_word (m := ⟨8, 0⟩) (meth := k8m0) (c := k8c0) (by decide +kernel) rfl rfl rfl (by decide +kernel)
set_option maxRecDepth 65536 in
theorem w_c6 : (Jvm.Cond.code ({ cls := "com/example/colonnade/colonnade/WordBuffer", name := "isEmpty", desc := "()Z" } : Jvm.MethodName) prog_114_method_4_code (1 : Nat) (Option.some Jvm.ClassFile.FieldType.boolean)).before args0 about1 = true := code_word (m := ⟨8, 2⟩) (meth := k8m2) (c := k8c2) (by decide +kernel) rfl rfl rfl (by decide +kernel)
set_option maxRecDepth 65536 in
theorem w_c7 : (Jvm.Cond.code ({ cls := "com/example/colonnade/colonnade/WordBuffer", name := "add", desc := "(C)V" } : Jvm.MethodName) prog_114_method_3_code (2 : Nat) (Option.none : Option Jvm.ClassFile.FieldType)).before args0 about1 = true := code_word (m := ⟨8, 1⟩) (meth := k8m1) (c := k8c1) (by decide +kernel) rfl rfl rfl (by decide +kernel)
set_option maxRecDepth 65536 in
theorem w_c8 : (Jvm.Cond.code ({ cls := "com/example/colonnade/colonnade/WordBuffer", name := "isExactly", desc := "(Ljava/lang/String;)Z" } : Jvm.MethodName) prog_114_method_6_code (2 : Nat) (Option.some Jvm.ClassFile.FieldType.boolean)).before args0 about1 = true := code_word (m := ⟨8, 3⟩) (meth := k8m3) (c := k8c3) (by decide +kernel) rfl rfl rfl (by decide +kernel)
set_option maxRecDepth 65536 in
theorem w_c9 : (Jvm.Cond.code ({ cls := "com/example/colonnade/colonnade/WordBuffer", name := "matches", desc := "(Ljava/lang/String;Z)Z" } : Jvm.MethodName) prog_114_method_7_code (6 : Nat) (Option.some Jvm.ClassFile.FieldType.boolean)).before args0 about1 = true := code_word (m := ⟨8, 4⟩) (meth := k8m4) (c := k8c4) (by decide +kernel) rfl rfl rfl (by decide +kernel)
set_option maxRecDepth 65536 in
theorem w_c10 : (Jvm.Cond.code ({ cls := "java/lang/String", name := "length", desc := "()I" } : Jvm.MethodName) jdk_42_method_54_code (1 : Nat) (Option.some Jvm.ClassFile.FieldType.int)).before args0 about1 = true := code_word (m := ⟨7, 2⟩) (meth := k7m2) (c := k7c2) (by decide +kernel) rfl rfl rfl (by decide +kernel)
set_option maxRecDepth 65536 in
theorem w_c11 : (Jvm.Cond.code ({ cls := "java/lang/String", name := "coder", desc := "()B" } : Jvm.MethodName) jdk_42_method_152_code (1 : Nat) (Option.some Jvm.ClassFile.FieldType.byte)).before args0 about1 = true := code_word (m := ⟨7, 5⟩) (meth := k7m5) (c := k7c5) (by decide +kernel) rfl rfl rfl (by decide +kernel)
set_option maxRecDepth 65536 in
theorem w_c12 : (Jvm.Cond.code ({ cls := "java/lang/StringUTF16", name := "compress", desc := "([CII)[B" } : Jvm.MethodName) jdk_52_method_16_code (6 : Nat) (Option.some (Jvm.ClassFile.FieldType.array Jvm.ClassFile.FieldType.byte))).before args0 about1 = true := code_word (m := ⟨9, 8⟩) (meth := k9m8) (c := k9c8) (by decide +kernel) rfl rfl rfl (by decide +kernel)
set_option maxRecDepth 65536 in
theorem w_c13 : (Jvm.Cond.code ({ cls := "java/lang/StringUTF16", name := "compress", desc := "([CI[BII)I" } : Jvm.MethodName) jdk_52_method_21_code (7 : Nat) (Option.some Jvm.ClassFile.FieldType.int)).before args0 about1 = true := code_word (m := ⟨9, 9⟩) (meth := k9m9) (c := k9c9) (by decide +kernel) rfl rfl rfl (by decide +kernel)
set_option maxRecDepth 65536 in
theorem w_c14 : (Jvm.Cond.code ({ cls := "java/lang/StringUTF16", name := "coderFromArrayLen", desc := "([BI)B" } : Jvm.MethodName) jdk_52_method_15_code (2 : Nat) (Option.some Jvm.ClassFile.FieldType.byte)).before args0 about1 = true := code_word (m := ⟨9, 7⟩) (meth := k9m7) (c := k9c7) (by decide +kernel) rfl rfl rfl (by decide +kernel)
set_option maxRecDepth 65536 in
theorem w_c15 : (Jvm.Cond.code ({ cls := "java/lang/StringUTF16", name := "toBytes", desc := "([CII)[B" } : Jvm.MethodName) jdk_52_method_14_code (5 : Nat) (Option.some (Jvm.ClassFile.FieldType.array Jvm.ClassFile.FieldType.byte))).before args0 about1 = true := code_word (m := ⟨9, 6⟩) (meth := k9m6) (c := k9c6) (by decide +kernel) rfl rfl rfl (by decide +kernel)
set_option maxRecDepth 65536 in
theorem w_c16 : (Jvm.Cond.code ({ cls := "java/lang/StringUTF16", name := "newBytesFor", desc := "(I)[B" } : Jvm.MethodName) jdk_52_method_2_code (1 : Nat) (Option.some (Jvm.ClassFile.FieldType.array Jvm.ClassFile.FieldType.byte))).before args0 about1 = true := code_word (m := ⟨9, 1⟩) (meth := k9m1) (c := k9c1) (by decide +kernel) rfl rfl rfl (by decide +kernel)
set_option maxRecDepth 65536 in
theorem w_c17 : (Jvm.Cond.code ({ cls := "java/lang/StringUTF16", name := "newBytesLength", desc := "(I)I" } : Jvm.MethodName) jdk_52_method_3_code (1 : Nat) (Option.some Jvm.ClassFile.FieldType.int)).before args0 about1 = true := code_word (m := ⟨9, 2⟩) (meth := k9m2) (c := k9c2) (by decide +kernel) rfl rfl rfl (by decide +kernel)
set_option maxRecDepth 65536 in
theorem w_c18 : (Jvm.Cond.code ({ cls := "java/lang/StringUTF16", name := "putChar", desc := "([BII)V" } : Jvm.MethodName) jdk_52_method_4_code (3 : Nat) (Option.none : Option Jvm.ClassFile.FieldType)).before args0 about1 = true := code_word (m := ⟨9, 3⟩) (meth := k9m3) (c := k9c3) (by decide +kernel) rfl rfl rfl (by decide +kernel)
set_option maxRecDepth 65536 in
theorem w_c19 : (Jvm.Cond.code ({ cls := "java/lang/StringUTF16", name := "getChar", desc := "([BI)C" } : Jvm.MethodName) jdk_52_method_5_code (2 : Nat) (Option.some Jvm.ClassFile.FieldType.char)).before args0 about1 = true := code_word (m := ⟨9, 4⟩) (meth := k9m4) (c := k9c4) (by decide +kernel) rfl rfl rfl (by decide +kernel)
set_option maxRecDepth 65536 in
theorem w_c20 : (Jvm.Cond.code ({ cls := "java/lang/String", name := "charAt", desc := "(I)C" } : Jvm.MethodName) jdk_42_method_56_code (2 : Nat) (Option.some Jvm.ClassFile.FieldType.char)).before args0 about1 = true := code_word (m := ⟨7, 3⟩) (meth := k7m3) (c := k7c3) (by decide +kernel) rfl rfl rfl (by decide +kernel)
set_option maxRecDepth 65536 in
theorem w_c21 : (Jvm.Cond.code ({ cls := "java/lang/String", name := "isLatin1", desc := "()Z" } : Jvm.MethodName) jdk_42_method_154_code (1 : Nat) (Option.some Jvm.ClassFile.FieldType.boolean)).before args0 about1 = true := code_word (m := ⟨7, 6⟩) (meth := k7m6) (c := k7c6) (by decide +kernel) rfl rfl rfl (by decide +kernel)
set_option maxRecDepth 65536 in
theorem w_c22 : (Jvm.Cond.code ({ cls := "java/lang/StringUTF16", name := "charAt", desc := "([BI)C" } : Jvm.MethodName) jdk_52_method_83_code (2 : Nat) (Option.some Jvm.ClassFile.FieldType.char)).before args0 about1 = true := code_word (m := ⟨9, 10⟩) (meth := k9m10) (c := k9c10) (by decide +kernel) rfl rfl rfl (by decide +kernel)
set_option maxRecDepth 65536 in
theorem w_c23 : (Jvm.Cond.code ({ cls := "java/lang/StringUTF16", name := "checkIndex", desc := "(I[B)V" } : Jvm.MethodName) jdk_52_method_91_code (2 : Nat) (Option.none : Option Jvm.ClassFile.FieldType)).before args0 about1 = true := code_word (m := ⟨9, 11⟩) (meth := k9m11) (c := k9c11) (by decide +kernel) rfl rfl rfl (by decide +kernel)
set_option maxRecDepth 65536 in
theorem w_c24 : (Jvm.Cond.code ({ cls := "java/lang/StringUTF16", name := "length", desc := "([B)I" } : Jvm.MethodName) jdk_52_method_6_code (1 : Nat) (Option.some Jvm.ClassFile.FieldType.int)).before args0 about1 = true := code_word (m := ⟨9, 5⟩) (meth := k9m5) (c := k9c5) (by decide +kernel) rfl rfl rfl (by decide +kernel)
set_option maxRecDepth 65536 in
theorem w_c25 : (Jvm.Cond.code ({ cls := "java/lang/String", name := "checkIndex", desc := "(II)V" } : Jvm.MethodName) jdk_42_method_155_code (2 : Nat) (Option.none : Option Jvm.ClassFile.FieldType)).before args0 about1 = true := code_word (m := ⟨7, 7⟩) (meth := k7m7) (c := k7c7) (by decide +kernel) rfl rfl rfl (by decide +kernel)
set_option maxRecDepth 65536 in
theorem w_c26 : (Jvm.Cond.code ({ cls := "jdk/internal/util/Preconditions", name := "checkIndex", desc := "(IILjava/util/function/BiFunction;)I" } : Jvm.MethodName) jdk_41_method_11_code (3 : Nat) (Option.some Jvm.ClassFile.FieldType.int)).before args0 about1 = true := code_word (m := ⟨10, 1⟩) (meth := k10m1) (c := k10c1) (by decide +kernel) rfl rfl rfl (by decide +kernel)
set_option maxRecDepth 65536 in
theorem w_c27 : (Jvm.Cond.code ({ cls := "java/lang/StringLatin1", name := "charAt", desc := "([BI)C" } : Jvm.MethodName) jdk_43_method_2_code (2 : Nat) (Option.some Jvm.ClassFile.FieldType.char)).before args0 about1 = true := code_word (m := ⟨11, 1⟩) (meth := k11m1) (c := k11c1) (by decide +kernel) rfl rfl rfl (by decide +kernel)
def codes1 : List Jvm.Cond := [Jvm.Cond.code x code maxLocals ret, Jvm.Cond.code ({ cls := "com/example/colonnade/colonnade/WordBufferAddPinLaw", name := "prefix", desc := "(ICCC)Ljava/lang/String;" } : Jvm.MethodName) method_2_code (5 : Nat) (Option.some (Jvm.ClassFile.FieldType.object "java/lang/String")), Jvm.Cond.code ({ cls := "java/lang/String", name := "<init>", desc := "([C)V" } : Jvm.MethodName) jdk_42_method_3_code (2 : Nat) (Option.none : Option Jvm.ClassFile.FieldType), Jvm.Cond.code ({ cls := "java/lang/String", name := "<init>", desc := "([CIILjava/lang/Void;)V" } : Jvm.MethodName) jdk_42_method_149_code (6 : Nat) (Option.none : Option Jvm.ClassFile.FieldType), Jvm.Cond.code ({ cls := "java/lang/Object", name := "<init>", desc := "()V" } : Jvm.MethodName) object_method_1_code (1 : Nat) (Option.none : Option Jvm.ClassFile.FieldType), Jvm.Cond.code ({ cls := "com/example/colonnade/colonnade/WordBuffer", name := "<init>", desc := "(I)V" } : Jvm.MethodName) prog_114_method_1_code (2 : Nat) (Option.none : Option Jvm.ClassFile.FieldType), Jvm.Cond.code ({ cls := "com/example/colonnade/colonnade/WordBuffer", name := "isEmpty", desc := "()Z" } : Jvm.MethodName) prog_114_method_4_code (1 : Nat) (Option.some Jvm.ClassFile.FieldType.boolean), Jvm.Cond.code ({ cls := "com/example/colonnade/colonnade/WordBuffer", name := "add", desc := "(C)V" } : Jvm.MethodName) prog_114_method_3_code (2 : Nat) (Option.none : Option Jvm.ClassFile.FieldType), Jvm.Cond.code ({ cls := "com/example/colonnade/colonnade/WordBuffer", name := "isExactly", desc := "(Ljava/lang/String;)Z" } : Jvm.MethodName) prog_114_method_6_code (2 : Nat) (Option.some Jvm.ClassFile.FieldType.boolean), Jvm.Cond.code ({ cls := "com/example/colonnade/colonnade/WordBuffer", name := "matches", desc := "(Ljava/lang/String;Z)Z" } : Jvm.MethodName) prog_114_method_7_code (6 : Nat) (Option.some Jvm.ClassFile.FieldType.boolean), Jvm.Cond.code ({ cls := "java/lang/String", name := "length", desc := "()I" } : Jvm.MethodName) jdk_42_method_54_code (1 : Nat) (Option.some Jvm.ClassFile.FieldType.int), Jvm.Cond.code ({ cls := "java/lang/String", name := "coder", desc := "()B" } : Jvm.MethodName) jdk_42_method_152_code (1 : Nat) (Option.some Jvm.ClassFile.FieldType.byte), Jvm.Cond.code ({ cls := "java/lang/StringUTF16", name := "compress", desc := "([CII)[B" } : Jvm.MethodName) jdk_52_method_16_code (6 : Nat) (Option.some (Jvm.ClassFile.FieldType.array Jvm.ClassFile.FieldType.byte)), Jvm.Cond.code ({ cls := "java/lang/StringUTF16", name := "compress", desc := "([CI[BII)I" } : Jvm.MethodName) jdk_52_method_21_code (7 : Nat) (Option.some Jvm.ClassFile.FieldType.int), Jvm.Cond.code ({ cls := "java/lang/StringUTF16", name := "coderFromArrayLen", desc := "([BI)B" } : Jvm.MethodName) jdk_52_method_15_code (2 : Nat) (Option.some Jvm.ClassFile.FieldType.byte), Jvm.Cond.code ({ cls := "java/lang/StringUTF16", name := "toBytes", desc := "([CII)[B" } : Jvm.MethodName) jdk_52_method_14_code (5 : Nat) (Option.some (Jvm.ClassFile.FieldType.array Jvm.ClassFile.FieldType.byte)), Jvm.Cond.code ({ cls := "java/lang/StringUTF16", name := "newBytesFor", desc := "(I)[B" } : Jvm.MethodName) jdk_52_method_2_code (1 : Nat) (Option.some (Jvm.ClassFile.FieldType.array Jvm.ClassFile.FieldType.byte)), Jvm.Cond.code ({ cls := "java/lang/StringUTF16", name := "newBytesLength", desc := "(I)I" } : Jvm.MethodName) jdk_52_method_3_code (1 : Nat) (Option.some Jvm.ClassFile.FieldType.int), Jvm.Cond.code ({ cls := "java/lang/StringUTF16", name := "putChar", desc := "([BII)V" } : Jvm.MethodName) jdk_52_method_4_code (3 : Nat) (Option.none : Option Jvm.ClassFile.FieldType), Jvm.Cond.code ({ cls := "java/lang/StringUTF16", name := "getChar", desc := "([BI)C" } : Jvm.MethodName) jdk_52_method_5_code (2 : Nat) (Option.some Jvm.ClassFile.FieldType.char), Jvm.Cond.code ({ cls := "java/lang/String", name := "charAt", desc := "(I)C" } : Jvm.MethodName) jdk_42_method_56_code (2 : Nat) (Option.some Jvm.ClassFile.FieldType.char), Jvm.Cond.code ({ cls := "java/lang/String", name := "isLatin1", desc := "()Z" } : Jvm.MethodName) jdk_42_method_154_code (1 : Nat) (Option.some Jvm.ClassFile.FieldType.boolean), Jvm.Cond.code ({ cls := "java/lang/StringUTF16", name := "charAt", desc := "([BI)C" } : Jvm.MethodName) jdk_52_method_83_code (2 : Nat) (Option.some Jvm.ClassFile.FieldType.char), Jvm.Cond.code ({ cls := "java/lang/StringUTF16", name := "checkIndex", desc := "(I[B)V" } : Jvm.MethodName) jdk_52_method_91_code (2 : Nat) (Option.none : Option Jvm.ClassFile.FieldType), Jvm.Cond.code ({ cls := "java/lang/StringUTF16", name := "length", desc := "([B)I" } : Jvm.MethodName) jdk_52_method_6_code (1 : Nat) (Option.some Jvm.ClassFile.FieldType.int), Jvm.Cond.code ({ cls := "java/lang/String", name := "checkIndex", desc := "(II)V" } : Jvm.MethodName) jdk_42_method_155_code (2 : Nat) (Option.none : Option Jvm.ClassFile.FieldType), Jvm.Cond.code ({ cls := "jdk/internal/util/Preconditions", name := "checkIndex", desc := "(IILjava/util/function/BiFunction;)I" } : Jvm.MethodName) jdk_41_method_11_code (3 : Nat) (Option.some Jvm.ClassFile.FieldType.int), Jvm.Cond.code ({ cls := "java/lang/StringLatin1", name := "charAt", desc := "([BI)C" } : Jvm.MethodName) jdk_43_method_2_code (2 : Nat) (Option.some Jvm.ClassFile.FieldType.char)]
set_option maxRecDepth 65536 in
theorem codes_eq : words1.filter isCode = codes1 := rfl
theorem w_codes : ∀ c ∈ words1.filter isCode, c.before args0 about1 = true := by
  rw [codes_eq]
  intro c hc
  simp only [codes1, List.mem_cons, List.not_mem_nil, or_false] at hc
  rcases hc with rfl | rfl | rfl | rfl | rfl | rfl | rfl | rfl | rfl | rfl | rfl | rfl | rfl | rfl | rfl | rfl | rfl | rfl | rfl | rfl | rfl | rfl | rfl | rfl | rfl | rfl | rfl | rfl
  · exact w_c0
  · exact w_c1
  · exact w_c2
  · exact w_c3
  · exact w_c4
  · exact w_c5
  · exact w_c6
  · exact w_c7
  · exact w_c8
  · exact w_c9
  · exact w_c10
  · exact w_c11
  · exact w_c12
  · exact w_c13
  · exact w_c14
  · exact w_c15
  · exact w_c16
  · exact w_c17
  · exact w_c18
  · exact w_c19
  · exact w_c20
  · exact w_c21
  · exact w_c22
  · exact w_c23
  · exact w_c24
  · exact w_c25
  · exact w_c26
  · exact w_c27
set_option maxRecDepth 65536 in
theorem w_t1 : (words1.take 24).all (fun c => isCode c || c.before args0 about1) = true := by decide +kernel
set_option maxRecDepth 65536 in
theorem w_t2 : ((words1.drop 24).take 24).all (fun c => isCode c || c.before args0 about1) = true := by decide +kernel
set_option maxRecDepth 65536 in
theorem w_t3 : (((words1.drop 24).drop 24).take 24).all (fun c => isCode c || c.before args0 about1) = true := by decide +kernel
set_option maxRecDepth 65536 in
theorem w_t4 : ((((words1.drop 24).drop 24).drop 24).take 24).all (fun c => isCode c || c.before args0 about1) = true := by decide +kernel
set_option maxRecDepth 65536 in
theorem w_t5 : (((((words1.drop 24).drop 24).drop 24).drop 24).take 24).all (fun c => isCode c || c.before args0 about1) = true := by decide +kernel
set_option maxRecDepth 65536 in
theorem w_t6 : (((((words1.drop 24).drop 24).drop 24).drop 24).drop 24).all (fun c => isCode c || c.before args0 about1) = true := by decide +kernel
theorem w_tables : (allAtoms (Jvm.Cond.code x code maxLocals ret :: tables_1)).before args0 about1 = true := by
  rw [allAtoms_all]
  show words1.all (fun c => c.before args0 about1) = true
  refine all_split ?_ w_codes
  rw [← List.take_append_drop 24 words1, List.all_append, w_t1, ← List.take_append_drop 24 (words1.drop 24), List.all_append, w_t2, ← List.take_append_drop 24 ((words1.drop 24).drop 24), List.all_append, w_t3, ← List.take_append_drop 24 (((words1.drop 24).drop 24).drop 24), List.all_append, w_t4, ← List.take_append_drop 24 ((((words1.drop 24).drop 24).drop 24).drop 24), List.all_append, w_t5, w_t6]
  rfl
set_option maxRecDepth 65536 in
theorem w_rest : rest_1_c.before args0 about1 = true := by decide +kernel
set_option maxRecDepth 65536 in
theorem w_case : (Jvm.Cond.and given_1 narrow_1).before args0 about1 = true := by decide +kernel
set_option maxRecDepth 65536 in
theorem w_consts : constsHeld consts_1 about1 := Jvm.Lit.constsHeldB_iff.mp (by decide +kernel)
theorem w_applies : (headSpec (Jvm.Cond.code x code maxLocals ret :: tables_1) room_1).applies x e0.platform about1 = true :=
  (Spec.applies_iff w_frames).mpr ⟨w_running, w_runnable, w_alone, w_named, w_hears, w_ripe, w_room, w_tables⟩
theorem atStart : AtStart classFile x code maxLocals ret World_1 tables_1 room_1 Calls_1 rest_1 Pre_1 launch0 p0 e0 about1 theMethod args0 below0 :=
  ⟨lists_1, trivial, launch0.admits_env _ _ _, launch0.least_env, fairChoices_fair.cas, fairChoices_fair.clock, w_frames, w_args, w_heap, w_applies, ⟨w_consts, trivial⟩, w_rest, w_case⟩
end start1
theorem witness_1 : WitnessClaimed_1 := ⟨start1.p0, start1.e0, start1.about1, start1.theMethod, start1.args0, start1.below0, start1.atStart⟩
end Jvm.Pilot.@@N@@
