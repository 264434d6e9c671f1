import JvmDerived
import JvmDerived.Pilot.@@N@@Statement
import JvmDerived.Pilot.@@N@@Code
set_option linter.unusedVariables false
set_option linter.unusedSimpArgs false
/- laws to paste: Road.lenW, Road.low_at, StrChars.pair_says, StrChars.chr8_lo8, StrChars.shr1, StrChars.narrow_ch (cut by pick.py; bodies as the Statement names them) -/
namespace Jvm.Pilot.@@N@@
namespace StrChars
open Jvm Sem ClassFile Op Lib Jvm.Stand Jvm.Free.XT Jvm.Free.ALB Jvm.Free.JM Jvm.Free
open Jvm.Lib.Cold (StaticIs)
/-- the byte that i2b leaves of a char -/
def lo8 (x : Int32) : Int32 := x.toInt8.toInt32
def U16 : String := "java/lang/StringUTF16"
namespace Cmp5
def yN : MethodName := ⟨"java/lang/StringUTF16", "compress", "([CI[BII)I"⟩
abbrev yB : ByteArray := jdk_52_method_21_code
end Cmp5
namespace Cmp3
def yN : MethodName := ⟨"java/lang/StringUTF16", "compress", "([CII)[B"⟩
abbrev yB : ByteArray := jdk_52_method_16_code
end Cmp3
namespace CodL
def yN : MethodName := ⟨"java/lang/StringUTF16", "coderFromArrayLen", "([BI)B"⟩
abbrev yB : ByteArray := jdk_52_method_15_code
end CodL
namespace New4
def yN : MethodName := ⟨"java/lang/String", "<init>", "([CIILjava/lang/Void;)V"⟩
abbrev yB : ByteArray := jdk_42_method_149_code
end New4
namespace New1
def yN : MethodName := ⟨"java/lang/String", "<init>", "([C)V"⟩
abbrev yB : ByteArray := jdk_42_method_3_code
end New1
/-- the byte, read back as charAt reads it, is the char -/
theorem lo8_mask {x : Int32} (h0 : ¬ x < 0) (h1 : ¬ 255 < x) : lo8 x &&& 255 = x := by
  have t : ∀ k : Fin 256, lo8 (Int32.ofNat k.val) &&& 255 = Int32.ofNat k.val := by decide +kernel
  rw [Int32.lt_iff_toInt_lt] at h0 h1
  have e0 : (0 : Int32).toInt = 0 := rfl
  have e1 : (255 : Int32).toInt = 255 := rfl
  obtain ⟨k, hk⟩ : ∃ k : Nat, x.toInt = k := ⟨x.toInt.toNat, by omega⟩
  have hx : x = Int32.ofNat k := Int32.toInt_inj.mp (by rw [hk, Int32.toInt_ofNat_small (by omega)])
  rw [hx]
  exact t ⟨k, by omega⟩
end StrChars
namespace StrChars.Road
open Jvm Sem ClassFile Op Lib Jvm.Stand Jvm.Free Jvm.Free.XT
open Jvm.Lib.Cold (StaticIs)
abbrev ST : String := "java/lang/String"
/-- every table word that New1's law asks, flat -/
abbrev words : List Jvm.Cond := [.code New1.yN New1.yB 2 none, .initialized ST, .methodLink ST 27 New4.yN, .instanceMethod New4.yN,
  .code New4.yN New4.yB 6 none, .fieldLink ST 38 ST "COMPACT_STRINGS" "Z", .laysFinal ST ST "value" "[B", .fieldLink ST 9 ST "value" "[B", .laysFinal ST ST "coder" "B", .fieldLink ST 15 ST "coder" "B",
  .methodLink ST 1 Lib.objectInit, .instanceMethod Lib.objectInit, .code Lib.objectInit ⟨#[0xb1]⟩ 1 none, .methodLink ST 177 Cmp3.yN, .static Cmp3.yN, .methodLink ST 47 CodL.yN, .static CodL.yN,
  .code Cmp3.yN Cmp3.yB 6 (some (.array .byte)), .initialized U16, .arrayClass .byte, .methodLink U16 115 Cmp5.yN, .static Cmp5.yN, .code Cmp5.yN Cmp5.yB 7 (some .int), .code CodL.yN CodL.yB 2 (some .byte)]
end StrChars.Road
namespace StrChars
open Jvm Sem ClassFile Op Lib Jvm.Stand Jvm.Free.XT Jvm.Free.ALB Jvm.Free.JM Jvm.Free
open Jvm.Lib.Cold (StaticIs)
def hi8 (x : Int32) : Int32 := lo8 (x >>> ((8 : Int32) &&& 31))
/-- what StringUTF16.getChar makes of two bytes -/
def pairCh (u v : Int32) : Int32 := (((u &&& 255) <<< ((0 : Int32) &&& 31)) ||| ((v &&& 255) <<< ((8 : Int32) &&& 31))).toUInt32.toUInt16.toUInt32.toInt32
theorem shr0 (c : Int32) : c >>> ((0 : Int32) &&& 31) = c := by
  have e : ((0 : Int32) &&& 31) = 0 := by decide
  rw [e]
  apply Int32.toBitVec_inj.mp
  rw [Int32.toBitVec_shiftRight]
  have e1 : ((0 : Int32).toBitVec.smod 32) = 0#32 := by decide
  rw [e1, BitVec.sshiftRight_eq']
  exact BitVec.sshiftRight_zero
theorem lo8_and (x : Int32) : (lo8 x &&& 255).toBitVec.toNat = x.toBitVec.toNat % 256 := by
  have h : (lo8 x).toBitVec = (x.toBitVec.signExtend 8).signExtend 32 := by rw [lo8, Int8.toBitVec_toInt32, Int32.toBitVec_toInt8]
  rw [Int32.toBitVec_and, BitVec.toNat_and, h]
  have e : ((x.toBitVec.signExtend 8).signExtend 32).toNat % 256 = x.toBitVec.toNat % 256 := by
    rw [BitVec.toNat_signExtend]
    have hlt := x.toBitVec.isLt
    simp only [BitVec.toNat_setWidth, BitVec.toNat_signExtend]
    split <;> split <;> omega
  rw [← e]
  exact Nat.and_two_pow_sub_one_eq_mod _ 8
theorem pair_says {c : Int32} (h0 : ¬ c < 0) (h1 : ¬ 65535 < c) : pairCh (lo8 c) (hi8 c) = c := by
  rw [Int32.lt_iff_toInt_lt] at h0 h1
  have e0 : (0 : Int32).toInt = 0 := rfl
  have e1 : (65535 : Int32).toInt = 65535 := rfl
  have hc : c.toInt = c.toBitVec.toNat := by
    have := c.toBitVec.isLt
    have e : c.toInt = c.toBitVec.toInt := rfl
    rw [e] at h0 h1
    rw [e]
    rw [BitVec.toInt_eq_toNat_cond] at h0 h1 ⊢
    split at h0 <;> split <;> omega
  have hn : c.toBitVec.toNat < 65536 := by omega
  have a1 := lo8_and c
  have a2 : (hi8 c &&& 255).toBitVec.toNat = c.toBitVec.toNat / 256 := by
    rw [hi8, lo8_and]
    have e : ((8 : Int32) &&& 31) = 8 := by decide
    rw [e, Int32.toBitVec_shiftRight]
    have e2 : ((8 : Int32).toBitVec.smod 32) = 8#32 := by decide
    rw [e2, BitVec.sshiftRight_eq', BitVec.toNat_sshiftRight_of_msb_false (by rw [BitVec.msb_eq_false_iff_two_mul_lt]; omega)]
    show c.toBitVec.toNat >>> 8 % 256 = _
    rw [Nat.shiftRight_eq_div_pow]
    omega
  unfold pairCh
  apply Int32.toBitVec_inj.mp
  apply BitVec.eq_of_toNat_eq
  have f0 : ((0 : Int32) &&& 31) = 0 := by decide
  have f8 : ((8 : Int32) &&& 31) = 8 := by decide
  rw [f0, f8]
  have g : (((lo8 c &&& 255) <<< (0 : Int32)) ||| ((hi8 c &&& 255) <<< (8 : Int32))).toBitVec.toNat = c.toBitVec.toNat := by
    rw [Int32.toBitVec_or, Int32.toBitVec_shiftLeft, Int32.toBitVec_shiftLeft]
    have s0 : ((0 : Int32).toBitVec.smod 32) = 0#32 := by decide
    have s8 : ((8 : Int32).toBitVec.smod 32) = 8#32 := by decide
    rw [s0, s8, BitVec.toNat_or]
    simp only [BitVec.shiftLeft_eq', BitVec.toNat_shiftLeft, a1, a2]
    show (c.toBitVec.toNat % 256) <<< 0 % 2 ^ 32 ||| (c.toBitVec.toNat / 256) <<< 8 % 2 ^ 32 = _
    rw [Nat.shiftLeft_zero, Nat.mod_eq_of_lt (show c.toBitVec.toNat % 256 < 2 ^ 32 by omega), Nat.mod_eq_of_lt (show (c.toBitVec.toNat / 256) <<< 8 < 2 ^ 32 by rw [Nat.shiftLeft_eq]; omega), Nat.or_comm, ← Nat.shiftLeft_add_eq_or_of_lt (by omega), Nat.shiftLeft_eq]
    omega
  show BitVec.toNat (((((lo8 c &&& 255) <<< (0 : Int32)) ||| ((hi8 c &&& 255) <<< (8 : Int32))).toBitVec.setWidth 16).setWidth 32) = _
  rw [BitVec.toNat_setWidth, BitVec.toNat_setWidth, g]
  omega
end StrChars
namespace StrChars
open Jvm Sem ClassFile Op Lib Jvm.Stand Jvm.Free.XT Jvm.Free.ALB Jvm.Free.JM Jvm.Free
open Jvm.Lib.Cold (StaticIs)
theorem shr1 {n : Nat} (h : 2 * n < 2 ^ 31) : Int32.ofNat (2 * n) >>> ((1 : Int32) &&& 31) = Int32.ofNat n := by
  have e : ((1 : Int32) &&& 31) = 1 := by decide
  rw [e]
  apply Int32.toBitVec_inj.mp
  rw [Int32.toBitVec_shiftRight]
  have e1 : ((1 : Int32).toBitVec.smod 32) = 1#32 := by decide
  have hm : (BitVec.ofNat 32 (2 * n)).toNat = 2 * n := by rw [BitVec.toNat_ofNat, Nat.mod_eq_of_lt (by omega)]
  rw [e1, BitVec.sshiftRight_eq']
  apply BitVec.eq_of_toNat_eq
  show ((BitVec.ofNat 32 (2 * n)).sshiftRight 1).toNat = (BitVec.ofNat 32 n).toNat
  rw [BitVec.toNat_sshiftRight_of_msb_false (by rw [BitVec.msb_eq_false_iff_two_mul_lt, hm]; omega), hm, BitVec.toNat_ofNat, Nat.shiftRight_eq_div_pow]
  omega
/-- charAt's cast of a byte read back -/
def chr8 (u : Int32) : Int32 := (u &&& 255).toUInt32.toUInt16.toUInt32.toInt32
theorem chr8_lo8 {c : Int32} (h0 : ¬ c < 0) (h1 : ¬ 255 < c) : chr8 (lo8 c) = c := by
  have t : ∀ k : Fin 256, (Int32.ofNat k.val).toUInt32.toUInt16.toUInt32.toInt32 = Int32.ofNat k.val := by decide +kernel
  unfold chr8
  rw [lo8_mask h0 h1]
  rw [Int32.lt_iff_toInt_lt] at h0 h1
  have e0 : (0 : Int32).toInt = 0 := rfl
  have e1 : (255 : Int32).toInt = 255 := rfl
  obtain ⟨k, hk⟩ : ∃ k : Nat, c.toInt = k := ⟨c.toInt.toNat, by omega⟩
  have hx : c = Int32.ofNat k := Int32.toInt_inj.mp (by rw [hk, Int32.toInt_ofNat_small (by omega)])
  rw [hx]
  exact t ⟨k, by omega⟩
theorem narrow_ch {c : Int32} (h0 : ¬ c < 0) (h1 : ¬ 65535 < c) : narrow .char (.int c) = .int c := by
  have q : narrow .char (.int (pairCh (lo8 c) (hi8 c))) = .int (pairCh (lo8 c) (hi8 c)) := narrow_c _
  rwa [pair_says h0 h1] at q
/-- the array's cell V codes the n chars f 0 .. f (n - 1) by the coder cd, as the JDK does: coder 1 just where some char is above 255 -/
def Cod (cd : Int32) (n : Nat) (f : Nat → Int32) (V : Cell) : Prop := (cd = 0 ∧ V.slots.size = n ∧ ∀ j, j < n → V.slots[j]? = some (.int (lo8 (f j))) ∧ ¬ 255 < f j) ∨ (cd = 1 ∧ V.slots.size = 2 * n ∧ (∀ j, j < n → V.slots[2 * j]? = some (.int (lo8 (f j))) ∧ V.slots[2 * j + 1]? = some (.int (hi8 (f j)))) ∧ ∃ j, j < n ∧ 255 < f j)
theorem Cod.cd {cd : Int32} {n : Nat} {f : Nat → Int32} {V : Cell} (h : Cod cd n f V) : cd = 0 ∨ cd = 1 := h.imp (fun q => q.1) fun q => q.1
theorem Cod.len {cd : Int32} {n : Nat} {f : Nat → Int32} {V : Cell} (h : Cod cd n f V) (hs : V.slots.size < 2 ^ 31) : Int32.ofNat V.slots.size >>> (cd &&& 31) = Int32.ofNat n := by
  rcases h with ⟨rfl, h, -⟩ | ⟨rfl, h, -⟩
  · rw [shr0, h]
  · rw [h, shr1 (by omega)]
/-- **x is a String of the n chars f 0 .. f (n - 1)**, Latin-1 or UTF-16; its array at t has the cell V -/
def Txt (x t : Addr) (V : Cell) (cd : Int32) (n : Nat) (f : Nat → Int32) (U : State) : Prop := Exact "java/lang/String" x U ∧ Has x "java/lang/String" "value" "[B" (.ref t) U ∧ Has x "java/lang/String" "coder" "B" (.int cd) U ∧ XT.Arr .byte t V U ∧ Cod cd n f V ∧ ∀ j, j < n → ¬ f j < 0 ∧ ¬ 65535 < f j
theorem Txt.mv {x t : Addr} {V : Cell} {cd : Int32} {n : Nat} {f : Nat → Int32} {U U' : State} (h : Txt x t V cd n f U) (hal : U.vm.Alike U'.vm) (hh : U'.heap = U.heap) : Txt x t V cd n f U' := ⟨h.1.mv hal hh, h.2.1.mv hal hh, h.2.2.1.mv hal hh, h.2.2.2.1.mv hal hh, h.2.2.2.2⟩
namespace Cdr
def yN : MethodName := ⟨"java/lang/String", "coder", "()B"⟩
abbrev yB : ByteArray := jdk_42_method_152_code
theorem d0 : decode yB 0 = .ok (.getstatic 38, 3) := by decide +kernel
theorem d3 : decode yB 3 = .ok (.ifCond (.eq) 10, 3) := by decide +kernel
theorem d6 : decode yB 6 = .ok (.aload_n 0, 1) := by decide +kernel
theorem d7 : decode yB 7 = .ok (.getfield 15, 3) := by decide +kernel
theorem d10 : decode yB 10 = .ok (.goto 4, 3) := by decide +kernel
theorem d14 : decode yB 14 = .ok (.ireturn, 1) := by decide +kernel
def site : List Cond := [.fieldLink "java/lang/String" 38 "java/lang/String" "COMPACT_STRINGS" "Z", .fieldLink "java/lang/String" 15 "java/lang/String" "coder" "B"]
def tab : Cond := tabOf yN yB 1 (some .byte) site
def P (x : Addr) (cd z : Int32) (args : Array Value) (s : State) : Prop := args = #[.ref x] ∧ Has x "java/lang/String" "coder" "B" (.int cd) s ∧ (cd = 0 ∨ cd = 1) ∧ StaticIs s "java/lang/String" "COMPACT_STRINGS" "Z" (.int z) ∧ ¬ z = 0
def E (cd : Int32) (r : Option Value) (s u : State) : Prop := XT.PureE (some (.int cd)) r s u
theorem law (l : Launch) (x : Addr) (cd z : Int32) : Law l yN 1 0 0 0 yB 1 (some .byte) site (P x cd z) (E cd) [] 0 0 := by
  refine Law.of_walk (plainFor_of_name (by decide +kernel)) (by decide +kernel) (by decide +kernel) (by decide) (fun _ _ h => by rw [h.1]; rfl) (fun _ U U' hal hh h => ⟨h.1, h.2.1.mv hal hh, h.2.2.1, h.2.2.2.1.there hal hh, h.2.2.2.2⟩) (fun r U U' V V' h1 hal h2 h => XT.PureE.mv r U U' V V' h1 hal h2 h) ?_
  intro p e s m args below meth c s₁ X0 hexec hbytes hml hret hlk hnm hown hh0 W hP
  obtain ⟨rfl, hx, hc, s1, hz⟩ := hP
  have c1 : Steps p.tables e below (s₁.setTop (entryFrame m #[.ref x] 1)) (s₁.setTop (mkF m 0 #[.val (.ref x)] [])) := entry rfl
  obtain ⟨T2, X2, q2, st2⟩ := X0.sget hexec hown (wk W (.fieldLink "java/lang/String" 38 "java/lang/String" "COMPACT_STRINGS" "Z")) s1 (fun _ _ h => by rw [hh0]; exact h) (g := (mkF m 0 #[.val (.ref x)] [])) rfl (hb hbytes d0)
  have hh2 := q2.trans hh0
  have c3 : Steps p.tables e below (s₁.setTop (entryFrame m #[.ref x] 1)) (T2.setTop (mkF m 7 #[.val (.ref x)] [.ref x])) := (c1.trans (st2 _ (Steps.refl _))).trans (by
    refine XS.ifNo X2.here hexec rfl (hb hbytes d3) rfl (i0_eq_f hz) ?_
    refine XS.aloadN X2.here hexec rfl (hb hbytes d6) rfl rfl ?_
    exact Steps.refl _)
  obtain ⟨T4, X4, q4, st4⟩ := X2.hget hexec hown (wk W (.fieldLink "java/lang/String" 15 "java/lang/String" "coder" "B")) (hx.mv X2.warmed.alike hh2) (g := (mkF m 7 #[.val (.ref x)] [.ref x])) rfl (rest := []) rfl (hb hbytes d7)
  have c5 : Steps p.tables e below (s₁.setTop (entryFrame m #[.ref x] 1)) (T4.setTop (mkF m 14 #[.val (.ref x)] [.int cd])) := (c3.trans (st4 _ (Steps.refl _))).trans (by
    refine XS.goto X4.here hexec rfl (pc0 := 10) rfl (hb hbytes d10) (by decide) rfl ?_
    exact Steps.refl _)
  exact ⟨T4, some (.int cd), _, _, _, X4, rfl, rfl, rfl, (fun h => by cases h), ⟨rfl, q4.trans hh2⟩, fun fs hl => c5.trans (X4.ireturnOut hexec hret (by rcases hc with rfl | rfl <;> rfl) (Or.inr (Or.inr (Or.inl rfl))) (hb hbytes d14) hl)⟩
end Cdr
namespace Len
def yN : MethodName := ⟨"java/lang/String", "length", "()I"⟩
abbrev yB : ByteArray := jdk_42_method_54_code
theorem d0 : decode yB 0 = .ok (.aload_n 0, 1) := by decide +kernel
theorem d1 : decode yB 1 = .ok (.getfield 9, 3) := by decide +kernel
theorem d4 : decode yB 4 = .ok (.arraylength, 1) := by decide +kernel
theorem d5 : decode yB 5 = .ok (.aload_n 0, 1) := by decide +kernel
theorem d6 : decode yB 6 = .ok (.invokevirtual 335, 3) := by decide +kernel
theorem d9 : decode yB 9 = .ok (.ishr, 1) := by decide +kernel
theorem d10 : decode yB 10 = .ok (.ireturn, 1) := by decide +kernel
def site : List Cond := [.fieldLink "java/lang/String" 9 "java/lang/String" "value" "[B", Cdr.tab] ++ virtW "java/lang/String" 335 "java/lang/String" Cdr.yN Cdr.yN
def tab : Cond := tabOf yN yB 1 (some .int) site
def P (x t : Addr) (V : Cell) (cd : Int32) (n : Nat) (f : Nat → Int32) (z : Int32) (args : Array Value) (s : State) : Prop := args = #[.ref x] ∧ Txt x t V cd n f s ∧ StaticIs s "java/lang/String" "COMPACT_STRINGS" "Z" (.int z) ∧ ¬ z = 0
def E (n : Nat) (r : Option Value) (s u : State) : Prop := XT.PureE (some (.int (Int32.ofNat n))) r s u
/-- length() of a String of n chars, in either coding -/
theorem law (l : Launch) (x t : Addr) (V : Cell) (cd : Int32) (n : Nat) (f : Nat → Int32) (z : Int32) : Law l yN 1 0 1 13 yB 1 (some .int) site (P x t V cd n f z) (E n) [] 0 0 := by
  refine Law.of_walk (plainFor_of_name (by decide +kernel)) (by decide +kernel) (by decide +kernel) (by decide) (fun _ _ h => by rw [h.1]; rfl) (fun _ U U' hal hh h => ⟨h.1, h.2.1.mv hal hh, h.2.2.1.there hal hh, h.2.2.2⟩) (fun r U U' V V' h1 hal h2 h => XT.PureE.mv r U U' V V' h1 hal h2 h) ?_
  intro p e s m args below meth c s₁ X0 hexec hbytes hml hret hlk hnm hown hh0 W hP
  obtain ⟨rfl, hx, s1, hz⟩ := hP
  have v31 := hx.2.2.2.1.2.2.2
  have c1 : Steps p.tables e below (s₁.setTop (entryFrame m #[.ref x] 1)) (s₁.setTop (mkF m 1 #[.val (.ref x)] [.ref x])) := Steps.trans (entry rfl) (by
    show Steps p.tables e below (s₁.setTop (mkF m 0 #[.val (.ref x)] [])) _
    refine XS.aloadN X0.here hexec rfl (hb hbytes d0) rfl rfl ?_
    exact Steps.refl _)
  obtain ⟨T2, X2, q2, st2⟩ := X0.hget hexec hown (wk W (.fieldLink "java/lang/String" 9 "java/lang/String" "value" "[B")) (hx.mv X0.warmed.alike hh0).2.1 (g := (mkF m 1 #[.val (.ref x)] [.ref x])) rfl (rest := []) rfl (hb hbytes d1)
  have hh2 := q2.trans hh0
  have hx2 := hx.mv X2.warmed.alike hh2
  have c3 : Steps p.tables e below (s₁.setTop (entryFrame m #[.ref x] 1)) (T2.setTop (mkF m 6 #[.val (.ref x)] [.ref x, .int (Int32.ofNat V.slots.size)])) := (c1.trans (st2 _ (Steps.refl _))).trans (by
    refine X2.alen hexec hx2.2.2.2.1 rfl rfl (hb hbytes d4) ?_
    refine XS.aloadN X2.here hexec rfl (hb hbytes d5) rfl rfl ?_
    exact Steps.refl _)
  obtain ⟨v4, T4, X4, E4, g4⟩ := X2.callV hexec (Cdr.law l x cd z) hown (wks W (virtW "java/lang/String" 335 "java/lang/String" Cdr.yN Cdr.yN)) rfl (by decide) (wk W Cdr.tab) (W := 1) (Nat.le_of_ble_eq_true rfl) (Nat.le_of_ble_eq_true rfl) (Nat.le_refl _) (Nat.le_refl _) (hx2.1.fc X2.warmed.alike) hx2.1.is (g := (mkF m 6 #[.val (.ref x)] [.ref x, .int (Int32.ofNat V.slots.size)])) rfl (by rw [hml]; rfl) c3 (argsL := []) (rest := [.int (Int32.ofNat V.slots.size)]) rfl rfl (by show 2 * 0 + (1 + 0) ≤ _; decide) (hb hbytes d6) (⟨rfl, hx2.2.2.1, hx.2.2.2.2.1.cd, s1.there X2.warmed.alike hh2, hz⟩)
  obtain ⟨rfl, q4⟩ := E4
  have c5 : Steps p.tables e below (s₁.setTop (entryFrame m #[.ref x] 1)) (T4.setTop (mkF m 10 #[.val (.ref x)] [.int (Int32.ofNat V.slots.size >>> (cd &&& 31))])) := Steps.trans g4 (by
    refine ishr X4.here hexec rfl (hb hbytes d9) rfl ?_
    exact Steps.refl _)
  rw [hx.2.2.2.2.1.len v31] at c5
  exact ⟨T4, some (.int (Int32.ofNat n)), _, _, _, X4, rfl, rfl, rfl, (fun h => by cases h), ⟨rfl, q4.trans hh2⟩, fun fs hl => c5.trans (X4.ireturnOut hexec hret rfl (Or.inl rfl) (hb hbytes d10) hl)⟩
theorem pays {l : Launch} {R : Room} {p : Program} {e : Env} {below : List Frame} {s : State} {sargs : Array Value} {len W : Nat} (x t : Addr) (V : Cell) (cd : Int32) (n : Nat) (f : Nat → Int32) (z : Int32) (htab : tab.before sargs s = true) (hfr : 2 ≤ R.frames) (hlo : W + 25 ≤ R.locals) :
    Back l R p e below s sargs yN len W (fun A₁ a₁ => A₁.cells + 0 ≤ R.cells ∧ A₁.slots + 0 ≤ R.slots ∧ P x t V cd n f z a₁ A₁.U) (fun A₁ _ v₁ B₁ => E n v₁ A₁.U B₁.U ∧ B₁.locs = A₁.locs ++ [] ∧ B₁.cells = A₁.cells + 0 ∧ B₁.slots = A₁.slots + 0) :=
  (law l x t V cd n f z).pays htab hfr (by omega)
end Len
end StrChars
namespace StrChars.Road
open Jvm Sem ClassFile Op Lib Jvm.Stand Jvm.Free Jvm.Free.XT
open Jvm.Lib.Cold (StaticIs)
theorem consq {a : Array Value} {s : State} {c : Jvm.Cond} {L : List Jvm.Cond} (h0 : c.before a s = true) (h : ∀ w ∈ L, w.before a s = true) : ∀ w ∈ c :: L, w.before a s = true := fun w hw => (List.mem_cons.mp hw).elim (fun e => e ▸ h0) (h w)
/-- the words of String.length(), either coding -/
abbrev wordsLen : List Jvm.Cond := [.code Len.yN Len.yB 1 (some .int), .initialized ST, .fieldLink ST 9 ST "value" "[B", .fieldLink ST 38 ST "COMPACT_STRINGS" "Z", .fieldLink ST 15 ST "coder" "B", .code Cdr.yN Cdr.yB 1 (some .byte), .methodLink ST 335 Cdr.yN, .declares Cdr.yN, .selects ST Cdr.yN Cdr.yN, .instanceMethod Cdr.yN]
theorem tabLen_of {a : Array Value} {s : State} (h : ∀ w ∈ wordsLen, w.before a s = true) : Len.tab.before a s = true := by
  have hc : Cdr.tab.before a s = true := unparts (wk h (.code Cdr.yN Cdr.yB 1 (some .byte))) (wks h (.initialized Cdr.yN.cls :: Cdr.site))
  have q := consq hc h
  exact unparts (wk q (.code Len.yN Len.yB 1 (some .int))) (wks q (.initialized Len.yN.cls :: Len.site))
theorem movedLen {Z s : State} {a0 args : Array Value} (hZ : Z.Warmed39 s.vm) (hw : ∀ d ∈ wordsLen, d.before a0 Z = true) : ∀ d ∈ wordsLen, d.before args s = true := fun d hd => by
  have q := hw d hd
  have t : ∀ d ∈ wordsLen, d = .arrayClass .byte ∨ (d.onTables && d.keepsFace) = true := by decide +kernel
  rcases t d hd with rfl | t
  · exact RoadKit.mvA hZ q
  · exact RoadKit.mv hZ q t
/-- the bytes of the chars cs, low before high -/
def wideBytes : List Int32 → List Value
  | [] => []
  | c :: cs => .int (lo8 c) :: .int (hi8 c) :: wideBytes cs
theorem wide_lo (d : Value) : ∀ (cs : List Int32) (j : Nat), j < cs.length → (wideBytes cs).getD (2 * j) d = .int (lo8 (cs.getD j 0))
  | [], j, h => absurd h (Nat.not_lt_zero j)
  | c :: cs, 0, _ => rfl
  | c :: cs, j + 1, h => by
    have q := wide_lo d cs j (by simpa using h)
    rw [show 2 * (j + 1) = 2 * j + 1 + 1 from by omega]
    simpa [wideBytes] using q
theorem wide_hi (d : Value) : ∀ (cs : List Int32) (j : Nat), j < cs.length → (wideBytes cs).getD (2 * j + 1) d = .int (hi8 (cs.getD j 0))
  | [], j, h => absurd h (Nat.not_lt_zero j)
  | c :: cs, 0, _ => rfl
  | c :: cs, j + 1, h => by
    have q := wide_hi d cs j (by simpa using h)
    rw [show 2 * (j + 1) + 1 = 2 * j + 1 + 1 + 1 from by omega]
    simpa [wideBytes] using q
theorem low_at (d : Value) (cs : List Int32) (j : Nat) (h : j < cs.length) : (cs.map fun c => Value.int (lo8 c)).getD j d = .int (lo8 (cs.getD j 0)) := by
  simp [List.getD_eq_getElem?_getD, h]
/-- an array of N2 bytes vs codes the chars cs by the coder cd -/
def CodA (cs : List Int32) (cd N2 : Int32) (vs : List Value) : Prop := (cd = 0 ∧ N2 = Int32.ofNat cs.length ∧ vs = (cs.map fun c => Value.int (lo8 c)) ∧ ∀ c ∈ cs, ¬ 255 < c) ∨ (cd = 1 ∧ N2 = Int32.ofNat (2 * cs.length) ∧ vs = wideBytes cs ∧ ∃ c ∈ cs, 255 < c)
theorem CodA.cod {cs : List Int32} {cd N2 : Int32} {vs : List Value} {V : Cell} (h : CodA cs cd N2 vs) (hn : 2 * cs.length < 2 ^ 31) (hs : V.slots.size = N2.toNatClampNeg) (hv : RoadKit.Has V vs (.int 0)) : Cod cd cs.length (fun j => cs.getD j 0) V := by
  rcases h with ⟨rfl, rfl, rfl, h⟩ | ⟨rfl, rfl, rfl, c, hc, hw⟩
  · rw [n32 (by omega)] at hs
    exact Or.inl ⟨rfl, hs, fun j hj => ⟨by rw [hv j (by omega), low_at _ _ _ hj], by
      have e : cs.getD j 0 = cs[j] := by simp [List.getD_eq_getElem?_getD, hj]
      show ¬ 255 < cs.getD j 0
      rw [e]; exact h _ (List.getElem_mem _)⟩⟩
  · rw [n32 (by omega)] at hs
    obtain ⟨j, hj, rfl⟩ := List.getElem_of_mem hc
    exact Or.inr ⟨rfl, hs, fun j hj => ⟨by rw [hv _ (by omega), wide_lo _ _ _ hj], by rw [hv _ (by omega), wide_hi _ _ _ hj]⟩, j, hj, by
      have e : cs.getD j 0 = cs[j] := by simp [List.getD_eq_getElem?_getD, hj]
      show 255 < cs.getD j 0
      rw [e]; exact hw⟩
/-- an object of exactly java/lang/String, its two fields found: as the laws ask it -/
theorem strObj {Z U : State} {a0 : Array Value} {kI : Nat} (wi : (Jvm.Cond.instantiable ST kI).before a0 Z = true) (al : Z.vm.Alike U.vm) {x : Addr} {v0 c0 : Value} (E : RoadKit.Exa Z U.heap x ST) (V : RoadKit.Fld Z U.heap x ST "value" "[B" v0) (C : RoadKit.Fld Z U.heap x ST "coder" "B" c0) :
    ∃ (D : Cell) (fV fC : Field), Blank ST x D U ∧ Found ST "value" "[B" fV U ∧ Found ST "coder" "B" fC U ∧ D.slots[fV.slot]? = some v0 ∧ D.slots[fC.slot]? = some c0 ∧ RoadKit.slotOf Z ST "value" "[B" = fV.slot ∧ RoadKit.slotOf Z ST "coder" "B" = fC.slot := by
  obtain ⟨D, cfV, kV, iV, fV, hD, gV, stV, knV, obV, asV, slV⟩ := V
  obtain ⟨D', cfC, kC, iC, fC, hD', gC, stC, -, -, asC, slC⟩ := C
  cases hD.symm.trans hD'
  obtain ⟨D2, kD, e1, e2, e3, e4, e5⟩ := E
  cases hD.symm.trans e1
  obtain ⟨c2, k2, i1, i2, i3, -⟩ := Cond.instantiable_spec wi
  cases e2.symm.trans i1
  cases e3.symm.trans i2
  obtain ⟨kU, u1, u2⟩ := al.2.2 _ _ e3
  exact ⟨D, fV, fC, ⟨hD, ⟨knV, fun q hq => by rw [hq] at obV; cases obV⟩, by rw [al.findClass]; exact e2, kU, u1, by rw [u2]; exact i3, by rw [u2]; exact e5 i3⟩, ⟨SBG.found_only al ⟨cfV, kV, iV, gV⟩, stV⟩, ⟨SBG.found_only al ⟨cfC, kC, iC, gC⟩, stC⟩, slV, slC, by simp [RoadKit.slotOf, gV], by simp [RoadKit.slotOf, gC]⟩
theorem sta_is {Z U : State} (al : Z.vm.Alike U.vm) {C n d : String} {v : Value} (S : RoadKit.Sta Z U.heap C n d v) : StaticIs U C n d v := by
  obtain ⟨cfS, iS, kS, fS, st, cS, t1, t2, t3, t4, t5, t6, t7⟩ := S
  exact StaticIs.there (s := { Z with heap := U.heap }) ⟨cfS, iS, kS, fS, st, cS, t1, t2, t3, t4, t5, (fun q => by rw [q] at t6; cases t6), t7⟩ al rfl
/-- **length() OF SUCH A STRING** -/
theorem lenW {p : Program} {l : Launch} {e : Env} {R : Room} {s : State} {args : Array Value} {below : List Frame} {len W : Nat} {Z : State} {a0 : Array Value} {h : Heap} (hZ : Z.Warmed39 s.vm) (hw : ∀ d ∈ wordsLen, d.before a0 Z = true) {kI : Nat} (wi : (Jvm.Cond.instantiable ST kI).before a0 Z = true)
    {x t : Addr} {kb : ClassId} {cs : List Int32} {cd N2 z : Int32} {vs : List Value} (E : RoadKit.Exa Z h x ST) (V : RoadKit.Fld Z h x ST "value" "[B" (.ref t)) (C : RoadKit.Fld Z h x ST "coder" "B" (.int cd)) (K : RoadKit.Arv Z h t kb .byte N2 vs (.int 0)) (hc : CodA cs cd N2 vs) (hb : ∀ c ∈ cs, ¬ c < 0 ∧ ¬ (65535 : Int32) < c)
    (S : RoadKit.Sta Z h ST "COMPACT_STRINGS" "Z" (.int z)) (hz : ¬ z = 0) (l2 : cs.length ≤ 4000) (hfr : 2 ≤ R.frames) (hlo : W + 25 ≤ R.locals) :
    Back l R p e below s args (⟨"java/lang/String", "length", "()I"⟩ : MethodName) len W (fun P a => a = #[.ref x] ∧ P.U.heap = h ∧ P.cells + 0 ≤ R.cells ∧ P.slots + 0 ≤ R.slots)
      (fun P _ v B => ∃ L, (v = some (.int (Int32.ofNat cs.length)) ∧ L = [] ∧ B.U.heap = h) ∧ B.locs = P.locs ++ L ∧ B.cells = P.cells + 0 ∧ B.slots = P.slots + 0) := by
  obtain ⟨A, K1, K2, K3, K4, K5, K6⟩ := K
  have hcod := hc.cod (by omega) K3 K5
  intro m meth c P g ig mk a X hg hsize hdg hW hn hp'
  obtain ⟨rfl, rfl, r1, r2⟩ := hp'
  have al : Z.vm.Alike P.U.vm := hZ.alike.trans X.warmed.alike
  obtain ⟨D, fV, fC, hB, F1, F2, g1, g2, -, -⟩ := strObj wi al E V C
  have hx : Txt x t A cd cs.length (fun j => cs.getD j 0) P.U := ⟨⟨_, hB.2.2.1, D, hB.1, rfl, by cases q : D.vm <;> first | rfl | exact absurd q (hB.2.1.2 _)⟩, Has.of hB F1 g1, Has.of hB F2 g2, ⟨K1.1, State.isArrayOf_alike al K1.2.1, K1.2.2, by rcases hcod with ⟨-, q, -⟩ | ⟨-, q, -⟩ <;> omega⟩, hcod, fun j hj => by
    have e : cs.getD j 0 = cs[j] := by simp [List.getD_eq_getElem?_getD, hj]
    show ¬ cs.getD j 0 < 0 ∧ ¬ 65535 < cs.getD j 0
    rw [e]; exact hb _ (List.getElem_mem _)⟩
  obtain ⟨v, B, X', ⟨⟨hv, hh⟩, hl, hk, hs⟩, st⟩ := Len.pays x t A cd cs.length (fun j => cs.getD j 0) z (tabLen_of (movedLen hZ hw)) hfr hlo m meth c P g ig mk _ X hg hsize hdg hW hn ⟨r1, r2, rfl, hx, sta_is al S, hz⟩
  exact ⟨v, B, X', ⟨[], ⟨hv, rfl, hh⟩, hl, hk, hs⟩, st⟩
end StrChars.Road
end Jvm.Pilot.@@N@@
namespace Jvm.Pilot.@@N@@
open Jvm Jvm.ClassFile Sem Op Lib Jvm.Free Jvm.Stand Jvm.LawKit Jvm.RoadKit Bundle Jvm.Pilot.@@N@@.Jvm.D
theorem w_ {Z : State} {a0 : Array Value} (hw : ∀ d ∈ tables_1, d.before a0 Z = true) {d : Jvm.Cond} (i : Nat) (h : tables_1[i]? = some d) : d.before a0 Z = true := hw d (List.mem_of_getElem? h)
section OwnKit
variable {p : Program} {l : Launch} {e : Env} {R : Room} {s : State} {m : MethodId} {args : Array Value} {below : List Frame} {meth : Method} {c : Code} {T : State} {locs : List Loc} {cells slots : Nat}
/-- the walk from t comes back with what Q says -/
def Fin (p : Program) (e : Env) (below : List Frame) (s : State) (Q : Option Value → Heap → List Loc → Prop) (C S : Nat) (t : State) : Prop :=
  ∃ s₂ o, Steps p.tables e below t s₂ ∧ s₂.status = .running ∧ Ended s₂ below o ∧ ∃ v L, o = .returned v ∧ Q v s₂.heap L ∧ FrameEnd s o s₂ L C S
theorem Fin.by {Q : Option Value → Heap → List Loc → Prop} {C S : Nat} {a b : State} (h : ∀ t, Steps p.tables e below b t → Steps p.tables e below a t) (k : Fin p e below s Q C S b) : Fin p e below s Q C S a := by
  obtain ⟨s₂, o, h1, h2⟩ := k; exact ⟨s₂, o, h _ h1, h2⟩
theorem Fin.byS {Q : Option Value → Heap → List Loc → Prop} {C S : Nat} {a b : State} (h : Steps p.tables e below a b) (k : Fin p e below s Q C S b) : Fin p e below s Q C S a := Fin.by (fun _ k => h.trans k) k
theorem Fin.start {Q : Option Value → Heap → List Loc → Prop} {C S : Nat} {g g' : JFrame} (q : g = g') (k : Fin p e below s Q C S (T.setTop g')) :
    ∃ s₂ o, Steps p.tables e below (T.setTop g) s₂ ∧ s₂.status = .running ∧ Ended s₂ below o ∧ ∃ v L, o = .returned v ∧ Q v s₂.heap L ∧ FrameEnd s o s₂ L C S := by
  subst q; exact k
theorem Fin.ret {Q : Option Value → Heap → List Loc → Prop} {C S : Nat} {v : Option Value} {g : JFrame} (X : Stand p l e R s m args below meth c T locs cells slots) (hv : meth.sig.returnType = none → v = none) (hl : meth.locks = false)
    (hq : Q v T.heap locs) (hc : cells ≤ C) (hs : slots ≤ S) (st : ∀ fs, (∀ (f : JFrame) (acts : List Action), f.method = m → f.locked = none → f.entered = [] → (doReturn e (T.setTop f) acts v).1 = T.setFrames fs) → Steps p.tables e below (T.setTop g) (T.setFrames fs)) :
    Fin p e below s Q C S (T.setTop g) := by
  obtain ⟨fs, hr, hrun, hended, hW, hsame⟩ := X.leave hv hl
  exact ⟨_, _, st fs hr, hrun, hended, _, _, rfl, hq, ⟨_, rfl⟩, hW, hsame.mono hc hs⟩
theorem retI (X : Stand p l e R s m args below meth c T locs cells slots) (hx : p.tables.exec = Jvm.exec) {pc : Nat} {Ls : Array Slot} {z : Int32} {rest : List Value} (hret : meth.sig.returnType = some .int) (hd : decode c.code pc = .ok (.ireturn, 1)) {fs : List Frame}
    (hl : ∀ (f : JFrame) (acts : List Action), f.method = m → f.locked = none → f.entered = [] → (doReturn e (T.setTop f) acts (some (.int z))).1 = T.setFrames fs) : Steps p.tables e below (T.setTop (mkF m pc Ls (.int z :: rest))) (T.setFrames fs) :=
  retOut X hx hret rfl (Or.inl ⟨rfl, Or.inl rfl, _, rfl⟩) hd hl
theorem retA (X : Stand p l e R s m args below meth c T locs cells slots) (hx : p.tables.exec = Jvm.exec) {pc : Nat} {Ls : Array Slot} {w : Value} {t : FieldType} {rest : List Value} (hret : meth.sig.returnType = some t) (ht : t.isReference = true) (hw : w.isRef = true) (hd : decode c.code pc = .ok (.areturn, 1)) {fs : List Frame}
    (hl : ∀ (f : JFrame) (acts : List Action), f.method = m → f.locked = none → f.entered = [] → (doReturn e (T.setTop f) acts (some w)).1 = T.setFrames fs) : Steps p.tables e below (T.setTop (mkF m pc Ls (w :: rest))) (T.setFrames fs) :=
  retOut X hx hret (by cases t <;> first | (cases ht; done) | rfl) (Or.inr (Or.inr (Or.inr (Or.inr ⟨rfl, ht, hw⟩)))) hd hl
theorem retJ (X : Stand p l e R s m args below meth c T locs cells slots) (hx : p.tables.exec = Jvm.exec) {pc : Nat} {Ls : Array Slot} {z : Int64} {rest : List Value} (hret : meth.sig.returnType = some .long) (hd : decode c.code pc = .ok (.lreturn, 1)) {fs : List Frame}
    (hl : ∀ (f : JFrame) (acts : List Action), f.method = m → f.locked = none → f.entered = [] → (doReturn e (T.setTop f) acts (some (.long z))).1 = T.setFrames fs) : Steps p.tables e below (T.setTop (mkF m pc Ls (.long z :: rest))) (T.setFrames fs) :=
  retOut X hx hret rfl (Or.inr (Or.inl ⟨rfl, rfl, _, rfl⟩)) hd hl
theorem XnullYes {target : State} (X : Stand p l e R s m args below meth c T locs cells slots) (hx : p.tables.exec = Jvm.exec) {g : JFrame} (hg : g.method = m) {v : Value} {rest : List Value} {o : Int} {pc0 pc' : Nat} (hv : v = .null) (hpc : g.pc = pc0) (hd : decode c.code g.pc = .ok (.ifnull o, 3)) (hs : g.stack = v :: rest) (ho : 0 ≤ (pc0 : Int) + o) (hp : ((pc0 : Int) + o).toNat = pc')
    (k : Steps p.tables e below (T.setTop { g with pc := pc', stack := rest }) target) : Steps p.tables e below (T.setTop g) target := by subst hv; exact XS.ifnullYes X.here hx hg hpc hd hs ho hp k
theorem XnullNo {target : State} (X : Stand p l e R s m args below meth c T locs cells slots) (hx : p.tables.exec = Jvm.exec) {g : JFrame} (hg : g.method = m) {v : Value} {a : Addr} {rest : List Value} {o : Int} (hv : v = .ref a) (hd : decode c.code g.pc = .ok (.ifnull o, 3)) (hs : g.stack = v :: rest)
    (k : Steps p.tables e below (T.setTop { g with pc := g.pc + 3, stack := rest }) target) : Steps p.tables e below (T.setTop g) target := by subst hv; exact XS.ifnullNo X.here hx hg hd hs k
theorem XnonnullYes {target : State} (X : Stand p l e R s m args below meth c T locs cells slots) (hx : p.tables.exec = Jvm.exec) {g : JFrame} (hg : g.method = m) {v : Value} {a : Addr} {rest : List Value} {o : Int} {pc0 pc' : Nat} (hv : v = .ref a) (hpc : g.pc = pc0) (hd : decode c.code g.pc = .ok (.ifnonnull o, 3)) (hs : g.stack = v :: rest) (ho : 0 ≤ (pc0 : Int) + o) (hp : ((pc0 : Int) + o).toNat = pc')
    (k : Steps p.tables e below (T.setTop { g with pc := pc', stack := rest }) target) : Steps p.tables e below (T.setTop g) target := by subst hv; exact XS.ifnonnullYes X.here hx hg hpc hd hs ho hp k
theorem XnonnullNo {target : State} (X : Stand p l e R s m args below meth c T locs cells slots) (hx : p.tables.exec = Jvm.exec) {g : JFrame} (hg : g.method = m) {v : Value} {rest : List Value} {o : Int} (hv : v = .null) (hd : decode c.code g.pc = .ok (.ifnonnull o, 3)) (hs : g.stack = v :: rest)
    (k : Steps p.tables e below (T.setTop { g with pc := g.pc + 3, stack := rest }) target) : Steps p.tables e below (T.setTop g) target := by subst hv; exact XS.ifnonnullNo X.here hx hg hd hs k
theorem cat_ref {v : Value} (h : v.isRef = true) : v.category = 1 := by rcases ref_cases h with rfl | ⟨a, rfl⟩ <;> rfl
theorem nar_ref (C : String) {v : Value} (h : v.isRef = true) : narrow (.object C) v = v := rfl
theorem fits_obj {C : String} {v : Value} (h : v.isRef = true) : fits (.object C) v = true := by rcases ref_cases h with rfl | ⟨a, rfl⟩ <;> rfl
def FinW (p : Program) (e : Env) (below : List Frame) (s : State) (Q : Option Value → Heap → List Loc → Prop) (C S : Nat) (t : State) : Prop :=
  ∃ s₂ o, Steps p.tables e below t s₂ ∧ s₂.status = .running ∧ Ended s₂ below o ∧ ∃ v L, o = .returned v ∧ Q v s₂.heap L ∧ ReturnedEndW s o s₂ L C S
theorem FinW.by {Q : Option Value → Heap → List Loc → Prop} {C S : Nat} {a b : State} (h : ∀ t, Steps p.tables e below b t → Steps p.tables e below a t) (k : FinW p e below s Q C S b) : FinW p e below s Q C S a := by
  obtain ⟨s₂, o, h1, h2⟩ := k; exact ⟨s₂, o, h _ h1, h2⟩
theorem FinW.byS {Q : Option Value → Heap → List Loc → Prop} {C S : Nat} {a b : State} (h : Steps p.tables e below a b) (k : FinW p e below s Q C S b) : FinW p e below s Q C S a := FinW.by (fun _ k => h.trans k) k
theorem FinW.start {Q : Option Value → Heap → List Loc → Prop} {C S : Nat} {g g' : JFrame} (q : g = g') (k : FinW p e below s Q C S (T.setTop g')) :
    ∃ s₂ o, Steps p.tables e below (T.setTop g) s₂ ∧ s₂.status = .running ∧ Ended s₂ below o ∧ ∃ v L, o = .returned v ∧ Q v s₂.heap L ∧ ReturnedEndW s o s₂ L C S := by
  subst q; exact k
theorem FinW.ret {Q : Option Value → Heap → List Loc → Prop} {C S : Nat} {v : Option Value} {g : JFrame} {V : Vm} {n : Nat} (X : Stand p l e R (s.setVm V) m args below meth c T locs cells slots) (hS : s.Since V n) (hn : n ≤ T.heap.size) (hv : meth.sig.returnType = none → v = none) (hl : meth.locks = false)
    (hq : Q v T.heap locs) (hc : cells ≤ C) (hs : slots ≤ S) (st : ∀ fs, (∀ (f : JFrame) (acts : List Action), f.method = m → f.locked = none → f.entered = [] → (doReturn e (T.setTop f) acts v).1 = T.setFrames fs) → Steps p.tables e below (T.setTop g) (T.setFrames fs)) :
    FinW p e below s Q C S (T.setTop g) := by
  obtain ⟨fs, hr, hrun, hended, hE⟩ := X.leaveW hS hn hv hl
  exact ⟨_, _, st fs hr, hrun, hended, _, _, rfl, hq, hE.1, hE.2.1, hE.2.2.1, hE.2.2.2.mono hc hs⟩
def FinH (p : Program) (e : Env) (below : List Frame) (Z : State) (EL : List (String × Nat)) (s : State) (Q : Option Value → Heap → List Loc → Prop) (C S : Nat) (t : State) : Prop :=
  ∃ s₂ o, Steps p.tables e below t s₂ ∧ s₂.status = .running ∧ Ended s₂ below o ∧ ∃ v L, o = .returned v ∧ Q v s₂.heap L ∧ CHr Z EL s.vm s.heap s₂.vm s₂.heap ∧ ReturnedEndW s o s₂ L C S
theorem FinH.by {Z : State} {EL : List (String × Nat)} {Q : Option Value → Heap → List Loc → Prop} {C S : Nat} {a b : State} (h : ∀ t, Steps p.tables e below b t → Steps p.tables e below a t) (k : FinH p e below Z EL s Q C S b) : FinH p e below Z EL s Q C S a := by
  obtain ⟨s₂, o, h1, h2⟩ := k; exact ⟨s₂, o, h _ h1, h2⟩
theorem FinH.byS {Z : State} {EL : List (String × Nat)} {Q : Option Value → Heap → List Loc → Prop} {C S : Nat} {a b : State} (h : Steps p.tables e below a b) (k : FinH p e below Z EL s Q C S b) : FinH p e below Z EL s Q C S a := FinH.by (fun _ k => h.trans k) k
theorem FinH.start {Z : State} {EL : List (String × Nat)} {Q : Option Value → Heap → List Loc → Prop} {C S : Nat} {g g' : JFrame} (q : g = g') (k : FinH p e below Z EL s Q C S (T.setTop g')) :
    ∃ s₂ o, Steps p.tables e below (T.setTop g) s₂ ∧ s₂.status = .running ∧ Ended s₂ below o ∧ ∃ v L, o = .returned v ∧ Q v s₂.heap L ∧ CHr Z EL s.vm s.heap s₂.vm s₂.heap ∧ ReturnedEndW s o s₂ L C S := by
  subst q; exact k
theorem FinH.ret {Z : State} {EL : List (String × Nat)} {Q : Option Value → Heap → List Loc → Prop} {C S : Nat} {v : Option Value} {g : JFrame} {V : Vm} {n : Nat} (X : Stand p l e R (s.setVm V) m args below meth c T locs cells slots) (hS : s.Since V n) (hn : n ≤ T.heap.size) (hv : meth.sig.returnType = none → v = none) (hl : meth.locks = false)
    (hq : Q v T.heap locs) (hC : CHr Z EL s.vm s.heap T.vm T.heap) (hc : cells ≤ C) (hs : slots ≤ S) (st : ∀ fs, (∀ (f : JFrame) (acts : List Action), f.method = m → f.locked = none → f.entered = [] → (doReturn e (T.setTop f) acts v).1 = T.setFrames fs) → Steps p.tables e below (T.setTop g) (T.setFrames fs)) :
    FinH p e below Z EL s Q C S (T.setTop g) := by
  obtain ⟨fs, hr, hrun, hended, hE⟩ := X.leaveW hS hn hv hl
  exact ⟨_, _, st fs hr, hrun, hended, _, _, rfl, hq, hC, hE.1, hE.2.1, hE.2.2.1, hE.2.2.2.mono hc hs⟩
end OwnKit
theorem own_and255 (x : Int32) : ¬ (x &&& 255) < 0 ∧ ¬ (255 : Int32) < (x &&& 255) := by
  have h := c_and x 255 (by decide)
  have h255 : (255 : Int32).toInt = 255 := by decide
  have h0 : (0 : Int32).toInt = 0 := by decide
  constructor
  · rw [Int32.lt_iff_toInt_lt]; omega
  · rw [Int32.lt_iff_toInt_lt]; omega
theorem own_c255 (x : Int32) : ¬ (nar .char ((x &&& (255 : Int32)).toUInt32.toUInt16.toUInt32.toInt32)) < 0 ∧ ¬ (255 : Int32) < (nar .char ((x &&& (255 : Int32)).toUInt32.toUInt16.toUInt32.toInt32)) := by
  rw [show nar .char ((x &&& (255 : Int32)).toUInt32.toUInt16.toUInt32.toInt32) = x &&& 255 from by simp only [nar, i2c_mask]]; exact own_and255 x
theorem own_cons {P : Int32 → Prop} {a : Int32} {L : List Int32} (h : P a) (k : ∀ c ∈ L, P c) : ∀ c ∈ a :: L, P c := fun c hc => (List.mem_cons.mp hc).elim (fun q => q ▸ h) (k c)
theorem own_nil {P : Int32 → Prop} : ∀ c ∈ ([] : List Int32), P c := fun _ h => nomatch h
theorem own_eqv {x y : Term} {s : State} {args : Array Value} {v : Value} (h : (Jvm.Cond.eq x y).value args s none s [] = some true) (hy : y.eval args s none [] s = some v) (hk : (match v with | .float _ | .double _ | .retAddr _ => false | _ => true) = true) : x.eval args s none [] s = some v := by
  cases hx : x.eval args s none [] s with
  | none => simp [Jvm.Cond.value, hx] at h
  | some u => cases u <;> cases v <;> simp [Jvm.Cond.value, hx, hy] at h hk ⊢ <;> exact h
theorem own_eqi {x : Term} {s : State} {args : Array Value} {n : Int32} (h : (Jvm.Cond.eq x (.int n)).value args s none s [] = some true) : x.eval args s none [] s = some (.int n) := own_eqv h (Term.int_eval n) rfl
theorem own_i8 (c : Int32) : (c.toInt8.toInt32).toInt8.toInt32 = c.toInt8.toInt32 := by simp
theorem own_shl1 {i : Nat} (h : i < 2 ^ 29) : (Int32.ofNat i <<< ((1 : Int32) &&& 31)) = Int32.ofNat (2 * i) := by
  have h1 := c_ishl (Int32.ofNat i) 1 1 (by decide)
  have h2 : (Int32.ofNat i).toInt = (i : Int) := toInt_of rfl (by omega)
  have h3 : (Int32.ofNat (2 * i)).toInt = ((2 * i : Nat) : Int) := toInt_of rfl (by omega)
  have h4 := rng32 (Int32.ofNat i <<< ((1 : Int32) &&& 31))
  rw [h2] at h1
  exact Int32.toInt_inj.mp (by rw [h3]; omega)
theorem own_ext {i : Nat} {x : Int32} (h : x = Int32.ofNat i) : x + (1 : Int32) = Int32.ofNat (i + 1) := by rw [h]; exact (inc_ofNat i).symm
theorem own_notlt {i : Nat} (h : i < 2 ^ 31) : ¬ Int32.ofNat i < (0 : Int32) := by
  rw [Int32.lt_iff_toInt_lt, toInt_of rfl h]; have : (0 : Int32).toInt = 0 := by decide
  omega
theorem own_ltn {i n : Nat} (h : i < n) (hn : n < 2 ^ 31) : Int32.ofNat i < Int32.ofNat n := by
  rw [Int32.lt_iff_toInt_lt, toInt_of rfl (by omega), toInt_of rfl hn]; omega
theorem own_codlen {cs : List Int32} {cd N2 : Int32} {vs : List Value} (h : StrChars.Road.CodA cs cd N2 vs) : cd = 0 ∨ cd = 1 := h.imp (fun q => q.1) (fun q => q.1)
theorem own_narch {c : Int32} (h : ¬ c < 0 ∧ ¬ (65535 : Int32) < c) : nar .char c = c := by
  have := StrChars.narrow_ch h.1 h.2
  exact Value.int.inj this
theorem own_up2 {cs : List Int32} (h : ∀ c ∈ cs, ¬ c < 0 ∧ ¬ (65535 : Int32) < c) {i : Nat} (hi : i < cs.length) : ¬ cs.getD i 0 < 0 ∧ ¬ (65535 : Int32) < cs.getD i 0 := by
  have e : cs.getD i 0 = cs[i] := by simp [List.getD_eq_getElem?_getD, hi]
  rw [e]; exact h _ (List.getElem_mem hi)
theorem own_lat {cs : List Int32} (hb3 : ∀ c ∈ cs, ¬ c < 0 ∧ ¬ (65535 : Int32) < c) (hlat : ∀ c ∈ cs, ¬ (255 : Int32) < c) {i : Nat} (hi : i < cs.length) : nar .char (nar .char ((StrChars.lo8 (cs.getD i 0) &&& (255 : Int32)).toUInt32.toUInt16.toUInt32.toInt32)) = cs.getD i 0 := by
  have hq := own_up2 hb3 hi
  have hq2 : ¬ (255 : Int32) < cs.getD i 0 := by
    have e : cs.getD i 0 = cs[i] := by simp [List.getD_eq_getElem?_getD, hi]
    rw [e]; exact hlat _ (List.getElem_mem hi)
  have e1 := StrChars.chr8_lo8 hq.1 hq2
  simp only [StrChars.chr8] at e1
  rw [e1, own_narch hq, own_narch hq]
theorem own_wid {cs : List Int32} (hb3 : ∀ c ∈ cs, ¬ c < 0 ∧ ¬ (65535 : Int32) < c) {i : Nat} (hi : i < cs.length) : nar .char (nar .char (nar .char (StrChars.pairCh (StrChars.lo8 (cs.getD i 0)) (StrChars.hi8 (cs.getD i 0))))) = cs.getD i 0 := by
  have hq := own_up2 hb3 hi
  rw [StrChars.pair_says hq.1 hq.2, own_narch hq, own_narch hq, own_narch hq]
theorem own_raw_lo (c : Int32) : ((c >>> ((0 : Int32) &&& 31)).toInt8.toInt32).toInt8.toInt32 = StrChars.lo8 c := by simp [StrChars.shr0, StrChars.lo8]
theorem own_raw_hi (c : Int32) : ((c >>> ((8 : Int32) &&& 31)).toInt8.toInt32).toInt8.toInt32 = StrChars.hi8 c := by simp [StrChars.hi8, StrChars.lo8]
theorem own_pw {c : Int32} (h : ¬ c < 0 ∧ ¬ (65535 : Int32) < c) : nar .char (StrChars.pairCh (((c >>> ((0 : Int32) &&& 31)).toInt8.toInt32).toInt8.toInt32) (((c >>> ((8 : Int32) &&& 31)).toInt8.toInt32).toInt8.toInt32)) = c := by
  rw [own_raw_lo, own_raw_hi, StrChars.pair_says h.1 h.2, own_narch h]
theorem own_slen {cs : List Int32} {cd N2 : Int32} {vs : List Value} (h : StrChars.Road.CodA cs cd N2 vs) (hl : cs.length ≤ 4000) : N2 >>> ((nar .byte cd) &&& 31) = Int32.ofNat cs.length := by
  rcases h with ⟨h1, h2, -, -⟩ | ⟨h1, h2, -, -⟩
  · subst h1; rw [h2, show ((nar .byte (0 : Int32)) &&& 31) = ((0 : Int32) &&& 31) from by decide, StrChars.shr0]
  · subst h1; rw [h2, show ((nar .byte (1 : Int32)) &&& 31) = ((1 : Int32) &&& 31) from by decide, StrChars.shr1 (by omega)]
theorem own_push {Z : State} {h h' : Heap} {a : Addr} {k : ClassId} {ty : FieldType} {z j : Int32} {vs : List Value} {dv v : Value} {c : Cell} (A : Arr Z h a c ty) (q1 : c.cls = k) (S : c.slots.size = z.toNatClampNeg) (q3 : ¬ z < 0) (H : Has c vs dv) (G : ∀ i, i < c.slots.size → fits ty (vs.getD i dv) = true) (hv : fits ty v = true) (W : Wr h h' a j.toNatClampNeg v) (hj : j.toNatClampNeg = vs.length) : Arv Z h' a k ty z (vs ++ [v]) dv := by
  have pr : ∀ i, (vs ++ [dv]).getD i dv = vs.getD i dv := pad_rep vs dv 1
  have q := Arv.set A q1 S q3 (vs := vs ++ [dv]) (dv := dv) (fun i hi => by rw [pr i]; exact H i hi) (fun i hi => by rw [pr i]; exact G i hi) hv W vs.length hj (by simp)
  have e : (vs ++ [dv]).set vs.length v = vs ++ [v] := by simp
  rw [e] at q; exact q
def own_flo (c : Int32) : Value := Value.int (StrChars.lo8 c)
theorem own_tk1 {β : Type} (f : Int32 → β) {cs : List Int32} {i : Nat} (hi : i < cs.length) : (cs.take i).map f ++ [f (cs.getD i 0)] = (cs.take (i + 1)).map f := by
  rw [List.take_add_one, List.map_append, List.getElem?_eq_getElem hi, show cs.getD i 0 = cs[i] from by simp [List.getD_eq_getElem?_getD, hi]]; rfl
theorem own_wtk : ∀ {cs : List Int32} {i : Nat}, i < cs.length → StrChars.Road.wideBytes (cs.take i) ++ [.int (StrChars.lo8 (cs.getD i 0))] ++ [.int (StrChars.hi8 (cs.getD i 0))] = StrChars.Road.wideBytes (cs.take (i + 1))
  | [], i, h => absurd h (Nat.not_lt_zero i)
  | c :: cs, 0, _ => by simp [StrChars.Road.wideBytes]
  | c :: cs, i + 1, h => by
    have q := own_wtk (cs := cs) (i := i) (by simpa using h)
    simp only [List.take_succ_cons, StrChars.Road.wideBytes, List.cons_append, List.getD_cons_succ]
    rw [← q]
theorem own_wlen : ∀ (cs : List Int32), (StrChars.Road.wideBytes cs).length = 2 * cs.length
  | [] => rfl
  | c :: cs => by simp only [StrChars.Road.wideBytes, List.length_cons, own_wlen cs]; omega
theorem own_mapget {cs : List Int32} {i : Nat} (hi : i < cs.length) : (cs.map Value.int).getD i (.int 0) = .int (cs.getD i 0) := by simp [List.getD_eq_getElem?_getD, hi]
theorem own_tlen {β : Type} {f : Int32 → β} {cs : List Int32} {i : Nat} (hi : i ≤ cs.length) : ((cs.take i).map f).length = i := by simp [Nat.min_eq_left hi]
theorem own_wtlen {cs : List Int32} {i : Nat} (hi : i ≤ cs.length) : (StrChars.Road.wideBytes (cs.take i)).length = 2 * i := by rw [own_wlen]; simp [Nat.min_eq_left hi]
theorem own_ltof {i n : Nat} {j : Int32} (hj : j = Int32.ofNat i) (h : j < Int32.ofNat n) (hi : i ≤ n) (hn : n ≤ 4000) : i < n := by
  rw [hj, Int32.lt_iff_toInt_lt, toInt_of rfl (by omega), toInt_of rfl (by omega)] at h; omega
theorem own_geof {i n : Nat} {j : Int32} (hj : j = Int32.ofNat i) (h : ¬ j < Int32.ofNat n) (hi : i ≤ n) (hn : n ≤ 4000) : i = n := by
  rw [hj, Int32.lt_iff_toInt_lt, toInt_of rfl (by omega), toInt_of rfl (by omega)] at h; omega
theorem own_big {n : Nat} (h : n ≤ 4000) : Int32.ofNat n < (1073741823 : Int32) := by
  rw [Int32.lt_iff_toInt_lt, toInt_of rfl (by omega)]; have : (1073741823 : Int32).toInt = 1073741823 := by decide
  omega
theorem own_cl {n : Nat} (h : n ≤ 8000) : (Int32.ofNat n).toNatClampNeg = n := clamp_of rfl (by omega)
theorem own_ne0 {n : Nat} (h : 0 < n) (h2 : n ≤ 4000) : ¬ Int32.ofNat n = (0 : Int32) := fun q => by
  have q2 := congrArg Int32.toInt q
  rw [toInt_of rfl (by omega)] at q2
  have h0 : (0 : Int32).toInt = 0 := by decide
  omega
theorem own_neq {i n : Nat} (h : i < n) (h2 : n ≤ 4000) : ¬ Int32.ofNat i = Int32.ofNat n := fun q => by
  have q2 := congrArg Int32.toInt q
  rw [toInt_of rfl (by omega), toInt_of rfl (by omega)] at q2
  omega
theorem own_cd0 (n : Nat) : (((Int32.ofNat n - Int32.ofNat n).toUInt32 >>> ((31 : Int32) &&& 31).toUInt32).toInt32.toInt8.toInt32) = 0 := by
  rw [Int32.sub_self]; decide
theorem own_cd1a : ∀ n : Nat, n < 6 → 0 < n → (((Int32.ofNat n - Int32.ofNat (2 * n)).toUInt32 >>> ((31 : Int32) &&& 31).toUInt32).toInt32.toInt8.toInt32) = 1 := by decide
theorem own_all {cs : List Int32} {P : Int32 → Prop} (h : ∀ k, k < cs.length → P (cs.getD k 0)) : ∀ c ∈ cs, P c := fun c hc => by
  obtain ⟨k, hk, e⟩ := List.getElem_of_mem hc
  have q := h k hk
  rw [show cs.getD k 0 = cs[k] from by simp [List.getD_eq_getElem?_getD, hk], e] at q
  exact q
theorem own_getmem {cs : List Int32} {i : Nat} (hi : i < cs.length) : cs.getD i 0 ∈ cs := by
  rw [show cs.getD i 0 = cs[i] from by simp [List.getD_eq_getElem?_getD, hi]]; exact List.getElem_mem hi
theorem own_cbo : ∀ n : Nat, n < 6 → ¬ ((Int32.ofNat n ||| (0 : Int32)) ||| (Int32.ofNat n - (0 : Int32))) < 0 ∧ ¬ (Int32.ofNat n - (0 : Int32)) < (Int32.ofNat n - (0 : Int32)) := by decide
theorem own_pos {n : Nat} (h : 0 < n) (h2 : n ≤ 4000) : (0 : Int32) < Int32.ofNat n := by
  rw [Int32.lt_iff_toInt_lt, toInt_of rfl (by omega)]; have h0 : (0 : Int32).toInt = 0 := by decide
  omega
theorem own_sub0 (x : Int32) : x - (0 : Int32) = x := by simp
theorem own_lat1 {cs : List Int32} (hb3 : ∀ c ∈ cs, ¬ c < 0 ∧ ¬ (65535 : Int32) < c) (hlat : ∀ c ∈ cs, ¬ (255 : Int32) < c) {i : Nat} (hi : i < cs.length) : nar .char ((StrChars.lo8 (cs.getD i 0) &&& (255 : Int32)).toUInt32.toUInt16.toUInt32.toInt32) = cs.getD i 0 := by
  have hq := own_up2 hb3 hi
  have e1 := StrChars.chr8_lo8 hq.1 (hlat _ (own_getmem hi))
  simp only [StrChars.chr8] at e1
  rw [e1, own_narch hq]
def own_low (x : Int32) : Int32 := if x < 65 then x else if 90 < x then x else ((x + 32).toUInt32.toUInt16.toUInt32.toInt32)
def own_g (x : Int32) : Int32 := nar .char (nar .char (own_low x))
theorem own_nn (x : Int32) : nar .char (nar .char x) = nar .char x := by simp only [nar, UInt32.toUInt32_toInt32, UInt16.toUInt16_toUInt32]
theorem own_nc (x : Int32) : nar .char (x.toUInt32.toUInt16.toUInt32.toInt32) = (x.toUInt32.toUInt16.toUInt32.toInt32) := by simp only [nar, UInt32.toUInt32_toInt32, UInt16.toUInt16_toUInt32]
theorem own_nb (x : Int32) : ¬ nar .char x < 0 ∧ ¬ (65535 : Int32) < nar .char x := rng_char (fits_nar_char _)
theorem own_gb (cs : List Int32) : ∀ c ∈ cs.map own_g, ¬ c < 0 ∧ ¬ (65535 : Int32) < c := fun c hc => by
  obtain ⟨x, -, rfl⟩ := List.mem_map.mp hc; exact own_nb _
def own_mix (cs : List Int32) (i : Nat) : List Value := ((cs.take i).map own_g ++ cs.drop i).map Value.int
theorem own_mix0 (cs : List Int32) : cs.map Value.int = own_mix cs 0 := by simp [own_mix]
theorem own_mixN (cs : List Int32) : own_mix cs cs.length = (cs.map own_g).map Value.int := by simp [own_mix]
theorem own_mixlen {cs : List Int32} {i : Nat} (hi : i ≤ cs.length) : (own_mix cs i).length = cs.length := by simp [own_mix, Nat.min_eq_left hi]; omega
theorem own_mixget {cs : List Int32} {i : Nat} (hi : i < cs.length) : (own_mix cs i).getD i (.int 0) = .int (cs.getD i 0) := by
  have e : ((cs.take i).map own_g).length = i := by simp [Nat.le_of_lt hi]
  simp only [own_mix, List.getD_eq_getElem?_getD, List.getElem?_map]
  rw [List.getElem?_append_right (by omega), e, Nat.sub_self, List.getElem?_drop]
  simp [hi]
theorem own_mixset {cs : List Int32} {i : Nat} (hi : i < cs.length) : (own_mix cs i).set i (.int (own_g (cs.getD i 0))) = own_mix cs (i + 1) := by
  have e : ((cs.take i).map own_g).length = i := by simp [Nat.le_of_lt hi]
  have d : cs.drop i = cs.getD i 0 :: cs.drop (i + 1) := by rw [List.drop_eq_getElem_cons hi]; simp [List.getD_eq_getElem?_getD, hi]
  unfold own_mix
  rw [← List.map_set, List.set_append_right _ _ (by omega), e, Nat.sub_self, d, List.set_cons_zero, ← own_tk1 own_g hi, List.append_assoc]
  rfl
def own_mk (n a0 a1 a2 a3 a4 : Int32) : List Int32 := if n = 0 then [] else if n = 1 then [a0] else if n = 2 then [a0, a1] else if n = 3 then [a0, a1, a2] else if n = 4 then [a0, a1, a2, a3] else [a0, a1, a2, a3, a4]
theorem own_mk0 (a0 a1 a2 a3 a4 : Int32) : own_mk 0 a0 a1 a2 a3 a4 = [] := by simp [own_mk]
theorem own_mk1 (a0 a1 a2 a3 a4 : Int32) : own_mk 1 a0 a1 a2 a3 a4 = [a0] := by simp [own_mk]
theorem own_mk2 (a0 a1 a2 a3 a4 : Int32) : own_mk 2 a0 a1 a2 a3 a4 = [a0, a1] := by simp [own_mk]
theorem own_mk3 (a0 a1 a2 a3 a4 : Int32) : own_mk 3 a0 a1 a2 a3 a4 = [a0, a1, a2] := by simp [own_mk]
theorem own_mk4 (a0 a1 a2 a3 a4 : Int32) : own_mk 4 a0 a1 a2 a3 a4 = [a0, a1, a2, a3] := by simp [own_mk]
theorem own_mk5 (a0 a1 a2 a3 a4 : Int32) : own_mk 5 a0 a1 a2 a3 a4 = [a0, a1, a2, a3, a4] := by simp [own_mk]
theorem own_mkl (n a0 a1 a2 a3 a4 : Int32) : (own_mk n a0 a1 a2 a3 a4).length ≤ 5 := by
  unfold own_mk; split <;> (try split) <;> (try split) <;> (try split) <;> (try split) <;> simp
theorem own_mkb (n a0 a1 a2 a3 a4 : Int32) : ∀ c ∈ own_mk n (nar .char a0) (nar .char a1) (nar .char a2) (nar .char a3) (nar .char a4), ¬ c < 0 ∧ ¬ (65535 : Int32) < c := by
  have q : ∀ c ∈ [nar .char a0, nar .char a1, nar .char a2, nar .char a3, nar .char a4], ¬ c < 0 ∧ ¬ (65535 : Int32) < c := own_cons (own_nb _) (own_cons (own_nb _) (own_cons (own_nb _) (own_cons (own_nb _) (own_cons (own_nb _) own_nil))))
  intro c hc
  refine q c ?_
  unfold own_mk at hc
  split at hc
  · cases hc
  split at hc
  · simp at hc ⊢; exact Or.inl hc
  split at hc
  · simp at hc ⊢; rcases hc with h | h <;> simp [h]
  split at hc
  · simp at hc ⊢; rcases hc with h | h | h <;> simp [h]
  split at hc
  · simp at hc ⊢; rcases hc with h | h | h | h <;> simp [h]
  · exact hc
theorem own_modr (x y : Int32) (hy : 0 < y.toInt) : 0 ≤ ((x &&& 2147483647) % y).toInt ∧ ((x &&& 2147483647) % y).toInt < y.toInt := by
  have h := c_and x 2147483647 (by decide)
  rw [Int32.toInt_mod, Int.tmod_eq_emod_of_nonneg h.1]
  exact ⟨Int.emod_nonneg _ (by omega), Int.emod_lt_of_pos _ hy⟩
theorem own_of6 {x : Int32} (h0 : 0 ≤ x.toInt) (h1 : x.toInt < 6) : x = 0 ∨ x = 1 ∨ x = 2 ∨ x = 3 ∨ x = 4 ∨ x = 5 := by
  have h : x.toInt = (0 : Int32).toInt ∨ x.toInt = (1 : Int32).toInt ∨ x.toInt = (2 : Int32).toInt ∨ x.toInt = (3 : Int32).toInt ∨ x.toInt = (4 : Int32).toInt ∨ x.toInt = (5 : Int32).toInt := by
    rw [show (0 : Int32).toInt = 0 from by decide, show (1 : Int32).toInt = 1 from by decide, show (2 : Int32).toInt = 2 from by decide, show (3 : Int32).toInt = 3 from by decide, show (4 : Int32).toInt = 4 from by decide, show (5 : Int32).toInt = 5 from by decide]; omega
  exact h.imp Int32.toInt_inj.mp (·.imp Int32.toInt_inj.mp (·.imp Int32.toInt_inj.mp (·.imp Int32.toInt_inj.mp (·.imp Int32.toInt_inj.mp Int32.toInt_inj.mp))))
theorem own_mod6 (x : Int32) : ((x &&& 2147483647) % 6) = 0 ∨ ((x &&& 2147483647) % 6) = 1 ∨ ((x &&& 2147483647) % 6) = 2 ∨ ((x &&& 2147483647) % 6) = 3 ∨ ((x &&& 2147483647) % 6) = 4 ∨ ((x &&& 2147483647) % 6) = 5 := by
  have h := own_modr x 6 (by decide)
  exact own_of6 h.1 (by have e : (6 : Int32).toInt = 6 := by decide
                        omega)
set_option maxRecDepth 65536 in
theorem own_EW0 {Z : State} {a0 : Array Value} (hw : ∀ d ∈ tables_1, d.before a0 Z = true) : EW Z a0 consts_1 := (EW.cons (w_ hw 20 rfl) (by decide +kernel) EW.nil)
theorem own_strAtoms : ∀ d ∈ Bundle.stringAtoms, d ∈ tables_1 := by decide +kernel
theorem own_safe_blank {Z : State} {EL : List (String × Nat)} {vm : Vm} {h : Heap} {a : Addr} (hal : Z.vm.Alike vm) (E : Exa Z h a "java/lang/String") (F : Fld Z h a "java/lang/String" "value" "[B" .null) : Safe Z EL vm h a := fun B => by
  obtain ⟨p, hp, u, a', hb, q, hq, G, hy⟩ := B
  have ha := G.ha
  have hd := G.hd
  obtain ⟨cS, ⟨⟨s1, s2, s3, ⟨cv, kv, iv, s4, s4'⟩, ⟨cc, kc, ic, s5, s5'⟩, s6, s7, s8, s9, s10, s11, s12, s13, s14, s15, s16⟩, hfS, hcS⟩, ⟨kS, k1, k2, k3⟩, hB, hbyt⟩ := G
  rcases hy with rfl | rfl
  · obtain ⟨kv', z4⟩ := ff_back (U := Wst Z vm h) hal s4
    obtain ⟨cell, cf, k, i, f, f1, f2, f3, f4, f5, f6, f7⟩ := F
    cases f1.symm.trans ha
    cases f2.symm.trans z4
    rw [s8] at f7
    cases f7
  · obtain ⟨cell, k, e1, e2, e3, -⟩ := E
    cases e1.symm.trans hd
    have hBZ : Z.vm.findClass "[B" = some q.SA.cls := by rw [← hal.findClass]; exact hB
    obtain ⟨x1, y1, y2⟩ := Vm.findClass_spec e2
    obtain ⟨x2, w1, w2⟩ := Vm.findClass_spec hBZ
    cases y1.symm.trans w1
    exact absurd (y2.symm.trans w2) (by decide)
theorem d_jdk_41_method_11_0 : decode jdk_41_method_11_code 0 = .ok (.iload_n 0, 1) := by decide +kernel
theorem d_jdk_41_method_11_1 : decode jdk_41_method_11_code 1 = .ok (.ifCond .lt 8, 3) := by decide +kernel
theorem d_jdk_41_method_11_4 : decode jdk_41_method_11_code 4 = .ok (.iload_n 0, 1) := by decide +kernel
theorem d_jdk_41_method_11_5 : decode jdk_41_method_11_code 5 = .ok (.iload_n 1, 1) := by decide +kernel
theorem d_jdk_41_method_11_6 : decode jdk_41_method_11_code 6 = .ok (.if_icmp .lt 10, 3) := by decide +kernel
theorem d_jdk_41_method_11_16 : decode jdk_41_method_11_code 16 = .ok (.iload_n 0, 1) := by decide +kernel
theorem d_jdk_41_method_11_17 : decode jdk_41_method_11_code 17 = .ok (.ireturn, 1) := by decide +kernel
theorem pn_jdk_internal_util_Preconditions : plainName "jdk/internal/util/Preconditions" = true := by first | (simp [plainName, overriddenIn]; done) | decide +kernel
def Q_pci (Z : State) (i : Int32) (n : Int32) (v : Value) (h0 : Heap) (n0 : Nat) (vv_ : Option Value) (hh_ : Heap) (LL_ : List Loc) : Prop := vv_ = some (.int i) ∧ Fr n0 LL_ ∧ hh_ = h0
set_option maxRecDepth 65536 in
set_option maxHeartbeats 40000000 in
theorem rm_pci (l : Launch) (Z : State) (a0 : Array Value) (hw : ∀ d ∈ tables_1, d.before a0 Z = true) (ws : List Jvm.Cond) (i : Int32) (n : Int32) (v : Value) (h0 : Heap) (n0 : Nat) (Z0 : n0 ≤ h0.size) (hz0 : ¬ i < (0 : Int32)) (hz1 : i < n) (rv : v.isRef = true) :
    MetFree l (⟨"jdk/internal/util/Preconditions", "checkIndex", "(IILjava/util/function/BiFunction;)I"⟩ : MethodName) (head1 (Jvm.Cond.code (⟨"jdk/internal/util/Preconditions", "checkIndex", "(IILjava/util/function/BiFunction;)I"⟩ : MethodName) jdk_41_method_11_code 3 (some .int) :: ws) ({ frames := 0, cells := 0, slots := 0, locals := 0 } : Room)) (fun aa_ U => aa_ = #[(.int i), (.int n), v] ∧ Z.Warmed39 U.vm ∧ U.heap = h0) (fun _ _ _ _ _ => True) (fun _ U o U' => ∃ vv_ LL_, o = .returned vv_ ∧ Q_pci Z i n v h0 n0 vv_ U'.heap LL_ ∧ FrameEnd U o U' LL_ 0 0) := by
  refine MetFree.of_bodySF (plainFor_of_name pn_jdk_internal_util_Preconditions) hisR ?_
  intro p e s m args below meth c s₁ Bd hml0 hP hK
  obtain ⟨rfl, hZ, hh⟩ := hP
  have hx := Bd.exec
  have hby := Bd.bytes
  have hml : c.maxLocals = 3 := hml0
  have hown : s.vm.findClass "jdk/internal/util/Preconditions" = some m.cls := findClass_of_methodNamed Bd.named
  have hnm := (name_of_methodNamed Bd.named Bd.method).1
  have X0 : Stand p l e ({ frames := 0, cells := 0, slots := 0, locals := 0 } : Room) s m #[(.int i), (.int n), v] below meth c s₁ [] 0 0 := Stand.of_body Bd
  have e0 : s₁.heap = h0 := by rw [← hh, Bd.state]; rfl
  have N0 := Fr.nil n0
  have ef : entryFrame m #[(.int i), (.int n), v] 3 = mkF m 0 #[.val (.int i), .val (.int n), .val v] [] := by first | (simp [entryFrame, mkF, argsToLocals, Value.category]; done) | rfl | (rcases ref_cases rv with rfl | ⟨_, rfl⟩ <;> simp [entryFrame, mkF, argsToLocals, Value.category])
  refine Fin.start (Q := Q_pci Z i n v h0 n0) ef ?_
  refine Fin.by (fun tt_ kk_ => XS.iloadN X0.here hx rfl (hb hby d_jdk_41_method_11_0) rfl kk_) ?_
  show Fin _ _ _ _ _ _ _ (s₁.setTop (mkF m 1 #[.val (.int i), .val (.int n), .val v] [(.int i)]))
  refine Fin.by (fun tt_ kk_ => XS.ifNo X0.here hx rfl (hb hby d_jdk_41_method_11_1) rfl ((if0 _ _).trans (flt (hz0 : ¬ i < (0 : Int32))).1) kk_) ?_
  refine Fin.by (fun tt_ kk_ => XS.iloadN X0.here hx rfl (hb hby d_jdk_41_method_11_4) rfl (XS.iloadN X0.here hx rfl (hb hby d_jdk_41_method_11_5) rfl kk_)) ?_
  show Fin _ _ _ _ _ _ _ (s₁.setTop (mkF m 6 #[.val (.int i), .val (.int n), .val v] [(.int n), (.int i)]))
  refine Fin.by (fun tt_ kk_ => XS.icmpYes X0.here hx rfl (pc0 := 6) (pc' := 16) rfl (hb hby d_jdk_41_method_11_6) rfl (tlt (hz1 : i < n)).1 (by decide) (by decide) kk_) ?_
  refine Fin.by (fun tt_ kk_ => XS.iloadN X0.here hx rfl (hb hby d_jdk_41_method_11_16) rfl kk_) ?_
  show Fin _ _ _ _ _ _ _ (s₁.setTop (mkF m 17 #[.val (.int i), .val (.int n), .val v] [(.int i)]))
  exact Fin.ret (v := some (.int i)) X0 (fun h => by rw [Bd.returns] at h; cases h) Bd.notSynchronized (by rw [e0]; exact ⟨rfl, N0, rfl⟩) (by decide) (by decide) (fun fs hr => retI X0 hx Bd.returns (hb hby d_jdk_41_method_11_17) hr)
abbrev y_0 : MethodName := (⟨"jdk/internal/util/Preconditions", "checkIndex", "(IILjava/util/function/BiFunction;)I"⟩ : MethodName)
theorem d_jdk_42_method_155_0 : decode jdk_42_method_155_code 0 = .ok (.iload_n 0, 1) := by decide +kernel
theorem d_jdk_42_method_155_1 : decode jdk_42_method_155_code 1 = .ok (.iload_n 1, 1) := by decide +kernel
theorem d_jdk_42_method_155_2 : decode jdk_42_method_155_code 2 = .ok (.getstatic 1053, 3) := by decide +kernel
theorem pd_11 : parseMethodDescriptor "(IILjava/util/function/BiFunction;)I" = some ⟨[.int, .int, (.object "java/util/function/BiFunction")], some .int⟩ := by decide +kernel
theorem d_jdk_42_method_155_5 : decode jdk_42_method_155_code 5 = .ok (.invokestatic 1059, 3) := by decide +kernel
theorem d_jdk_42_method_155_8 : decode jdk_42_method_155_code 8 = .ok (.pop, 1) := by decide +kernel
theorem d_jdk_42_method_155_9 : decode jdk_42_method_155_code 9 = .ok (.return_, 1) := by decide +kernel
theorem pn_java_lang_String : plainName "java/lang/String" = true := by first | (simp [plainName, overriddenIn]; done) | decide +kernel
def Q_sci (Z : State) (i : Int32) (n : Int32) (G9 : Value) (h0 : Heap) (n0 : Nat) (vv_ : Option Value) (hh_ : Heap) (LL_ : List Loc) : Prop := vv_ = none ∧ Fr n0 LL_ ∧ hh_ = h0
set_option maxRecDepth 65536 in
set_option maxHeartbeats 40000000 in
theorem rm_sci (l : Launch) (Z : State) (a0 : Array Value) (hw : ∀ d ∈ tables_1, d.before a0 Z = true) (ws : List Jvm.Cond) (i : Int32) (n : Int32) (G9 : Value) (h0 : Heap) (n0 : Nat) (Z0 : n0 ≤ h0.size) (hz0 : ¬ i < (0 : Int32)) (hz1 : i < n) (S9 : Sta Z Z.heap "jdk/internal/util/Preconditions" "SIOOBE_FORMATTER" "Ljava/util/function/BiFunction;" G9) (r9 : G9.isRef = true) (OL : Old Z n0 h0) :
    MetFree l (⟨"java/lang/String", "checkIndex", "(II)V"⟩ : MethodName) (head1 (Jvm.Cond.code (⟨"java/lang/String", "checkIndex", "(II)V"⟩ : MethodName) jdk_42_method_155_code 2 none :: ws) ({ frames := 1, cells := 0, slots := 0, locals := 14 } : Room)) (fun aa_ U => aa_ = #[(.int i), (.int n)] ∧ Z.Warmed39 U.vm ∧ U.heap = h0) (fun _ _ _ _ _ => True) (fun _ U o U' => ∃ vv_ LL_, o = .returned vv_ ∧ Q_sci Z i n G9 h0 n0 vv_ U'.heap LL_ ∧ FrameEnd U o U' LL_ 0 0) := by
  refine MetFree.of_bodySF (plainFor_of_name pn_java_lang_String) hisR ?_
  intro p e s m args below meth c s₁ Bd hml0 hP hK
  obtain ⟨rfl, hZ, hh⟩ := hP
  have hx := Bd.exec
  have hby := Bd.bytes
  have hml : c.maxLocals = 2 := hml0
  have hown : s.vm.findClass "java/lang/String" = some m.cls := findClass_of_methodNamed Bd.named
  have hnm := (name_of_methodNamed Bd.named Bd.method).1
  have X0 : Stand p l e ({ frames := 1, cells := 0, slots := 0, locals := 14 } : Room) s m #[(.int i), (.int n)] below meth c s₁ [] 0 0 := Stand.of_body Bd
  have e0 : s₁.heap = h0 := by rw [← hh, Bd.state]; rfl
  have N0 := Fr.nil n0
  have ef : entryFrame m #[(.int i), (.int n)] 2 = mkF m 0 #[.val (.int i), .val (.int n)] [] := by first | (simp [entryFrame, mkF, argsToLocals, Value.category]; done) | rfl
  refine Fin.start (Q := Q_sci Z i n G9 h0 n0) ef ?_
  refine Fin.by (fun tt_ kk_ => XS.iloadN X0.here hx rfl (hb hby d_jdk_42_method_155_0) rfl (XS.iloadN X0.here hx rfl (hb hby d_jdk_42_method_155_1) rfl kk_)) ?_
  obtain ⟨T101, X101, e101, st101⟩ := getS X0 hx hZ (host := "") hown (w_ hw 86 rfl) Via.refl e0 (S9.ext OL.2) (g := (mkF m 2 #[.val (.int i), .val (.int n)] [(.int n), (.int i)])) rfl (hb hby d_jdk_42_method_155_2)
  refine Fin.by (fun tt_ kk_ => st101 tt_ kk_) ?_
  obtain ⟨v102, _, ⟨T102, L102, k102, n102⟩, -, X102, ⟨Lc102, hQ102, l102, y102, z102⟩, st102⟩ := Jvm.LawKit.callS X101 hx (y := y_0) hown (mvT hZ (w_ hw 88 rfl)) (mvT hZ (w_ hw 89 rfl)) (mvT hZ (w_ hw 87 rfl)) (mvT hZ (w_ hw 90 rfl)) (by decide) (backOf (W := 0) (rm_pci l Z a0 hw [] i n G9 h0 n0 Z0 hz0 hz1 r9) hZ (w_ hw 90 rfl) (w_ hw 87 rfl) (by decide) (by decide)) (g := (mkF m 5 #[.val (.int i), .val (.int n)] [G9, (.int n), (.int i)])) rfl (by rw [hml]; rfl) (argsL := [(.int i), (.int n), G9]) (rest := []) (lenOf pd_11 rfl) rfl (by show 2 * 0 + _ ≤ _; exact Nat.le_of_eq rfl) (hb hby d_jdk_42_method_155_5) (fun _ _ => ⟨rfl, e101, (by decide : 0 + 0 ≤ _), (by decide : 0 + 0 ≤ _)⟩)
  dsimp only [Pt.U, Pt.locs, Pt.cells, Pt.slots] at X102 l102 y102 z102 st102 hQ102
  subst l102 y102 z102
  obtain ⟨rfl, Nq102, e102_⟩ := hQ102
  have N102_ := Fr.app N0 Nq102
  refine Fin.by (fun tt_ kk_ => st102 tt_ kk_) ?_
  have e102 := e102_
  refine Fin.by (fun tt_ kk_ => XS.pop X102.here hx rfl (hb hby d_jdk_42_method_155_8) rfl rfl kk_) ?_
  show Fin _ _ _ _ _ _ _ (T102.setTop (mkF m 9 #[.val (.int i), .val (.int n)] []))
  exact Fin.ret (v := none) X102 (fun _ => rfl) Bd.notSynchronized (by rw [e102]; exact ⟨rfl, N102_, rfl⟩) (by decide) (by decide) (fun fs hr => X102.returnOut hx Bd.returns (hb hby d_jdk_42_method_155_9) hr)
abbrev y_1 : MethodName := (⟨"java/lang/String", "checkIndex", "(II)V"⟩ : MethodName)
theorem d_jdk_43_method_2_0 : decode jdk_43_method_2_code 0 = .ok (.iload_n 1, 1) := by decide +kernel
theorem d_jdk_43_method_2_1 : decode jdk_43_method_2_code 1 = .ok (.aload_n 0, 1) := by decide +kernel
theorem d_jdk_43_method_2_2 : decode jdk_43_method_2_code 2 = .ok (.arraylength, 1) := by decide +kernel
theorem pd_19 : parseMethodDescriptor "(II)V" = some ⟨[.int, .int], none⟩ := by decide +kernel
theorem d_jdk_43_method_2_3 : decode jdk_43_method_2_code 3 = .ok (.invokestatic 9, 3) := by decide +kernel
theorem d_jdk_43_method_2_6 : decode jdk_43_method_2_code 6 = .ok (.aload_n 0, 1) := by decide +kernel
theorem d_jdk_43_method_2_7 : decode jdk_43_method_2_code 7 = .ok (.iload_n 1, 1) := by decide +kernel
theorem d_jdk_43_method_2_8 : decode jdk_43_method_2_code 8 = .ok (.baload, 1) := by decide +kernel
theorem d_jdk_43_method_2_9 : decode jdk_43_method_2_code 9 = .ok (.sipush 255, 3) := by decide +kernel
theorem d_jdk_43_method_2_12 : decode jdk_43_method_2_code 12 = .ok (.iand, 1) := by decide +kernel
theorem d_jdk_43_method_2_13 : decode jdk_43_method_2_code 13 = .ok (.i2c, 1) := by decide +kernel
theorem d_jdk_43_method_2_14 : decode jdk_43_method_2_code 14 = .ok (.ireturn, 1) := by decide +kernel
theorem pn_java_lang_StringLatin1 : plainName "java/lang/StringLatin1" = true := by first | (simp [plainName, overriddenIn]; done) | decide +kernel
def Q_lch (Z : State) (t : Addr) (kb : ClassId) (N2 : Int32) (vs : List Value) (i : Nat) (j : Int32) (u : Int32) (G9 : Value) (h0 : Heap) (n0 : Nat) (vv_ : Option Value) (hh_ : Heap) (LL_ : List Loc) : Prop := vv_ = some (.int (nar .char ((u &&& (255 : Int32)).toUInt32.toUInt16.toUInt32.toInt32))) ∧ Fr n0 LL_ ∧ hh_ = h0
set_option maxRecDepth 65536 in
set_option maxHeartbeats 40000000 in
theorem rm_lch (l : Launch) (Z : State) (a0 : Array Value) (hw : ∀ d ∈ tables_1, d.before a0 Z = true) (ws : List Jvm.Cond) (t : Addr) (kb : ClassId) (N2 : Int32) (vs : List Value) (i : Nat) (j : Int32) (u : Int32) (G9 : Value) (h0 : Heap) (n0 : Nat) (Z0 : n0 ≤ h0.size) (hj : j = Int32.ofNat i) (hlt : j < N2) (hi : i < N2.toNatClampNeg) (hb2 : N2.toNatClampNeg < 2 ^ 31) (hu : vs.getD i (.int 0) = .int u) (A0 : Arv Z h0 t kb .byte N2 vs (.int 0)) (S9 : Sta Z Z.heap "jdk/internal/util/Preconditions" "SIOOBE_FORMATTER" "Ljava/util/function/BiFunction;" G9) (r9 : G9.isRef = true) (OL : Old Z n0 h0) :
    MetFree l (⟨"java/lang/StringLatin1", "charAt", "([BI)C"⟩ : MethodName) (head1 (Jvm.Cond.code (⟨"java/lang/StringLatin1", "charAt", "([BI)C"⟩ : MethodName) jdk_43_method_2_code 2 (some .char) :: ws) ({ frames := 2, cells := 0, slots := 0, locals := 27 } : Room)) (fun aa_ U => aa_ = #[(.ref t), (.int j)] ∧ Z.Warmed39 U.vm ∧ U.heap = h0) (fun _ _ _ _ _ => True) (fun _ U o U' => ∃ vv_ LL_, o = .returned vv_ ∧ Q_lch Z t kb N2 vs i j u G9 h0 n0 vv_ U'.heap LL_ ∧ FrameEnd U o U' LL_ 0 0) := by
  refine MetFree.of_bodySF (plainFor_of_name pn_java_lang_StringLatin1) hisR ?_
  intro p e s m args below meth c s₁ Bd hml0 hP hK
  obtain ⟨rfl, hZ, hh⟩ := hP
  have hx := Bd.exec
  have hby := Bd.bytes
  have hml : c.maxLocals = 2 := hml0
  have hown : s.vm.findClass "java/lang/StringLatin1" = some m.cls := findClass_of_methodNamed Bd.named
  have hnm := (name_of_methodNamed Bd.named Bd.method).1
  have X0 : Stand p l e ({ frames := 2, cells := 0, slots := 0, locals := 27 } : Room) s m #[(.ref t), (.int j)] below meth c s₁ [] 0 0 := Stand.of_body Bd
  have e0 : s₁.heap = h0 := by rw [← hh, Bd.state]; rfl
  have N0 := Fr.nil n0
  have ef : entryFrame m #[(.ref t), (.int j)] 2 = mkF m 0 #[.val (.ref t), .val (.int j)] [] := by first | (simp [entryFrame, mkF, argsToLocals, Value.category]; done) | rfl
  refine Fin.start (Q := Q_lch Z t kb N2 vs i j u G9 h0 n0) ef ?_
  refine Fin.by (fun tt_ kk_ => XS.iloadN X0.here hx rfl (hb hby d_jdk_43_method_2_0) rfl (XS.aloadN X0.here hx rfl (hb hby d_jdk_43_method_2_1) rfl rfl kk_)) ?_
  obtain ⟨cl101, Ar101, q101, S101, N101, H101, G101⟩ := id A0
  refine Fin.by (fun tt_ kk_ => X0.arraylength hx (by rw [e0]; exact Ar101.1) (State.isArrayOf_alike hZ.alike Ar101.2.1) (g := (mkF m 2 #[.val (.ref t), .val (.int j)] [(.ref t), (.int j)])) rfl rfl (hb hby d_jdk_43_method_2_2) _ kk_) ?_
  rw [len_of S101 N101]
  obtain ⟨v102, _, ⟨T102, L102, k102, n102⟩, -, X102, ⟨Lc102, hQ102, l102, y102, z102⟩, st102⟩ := Jvm.LawKit.callS X0 hx (y := y_1) hown (mvT hZ (w_ hw 83 rfl)) (mvT hZ (w_ hw 84 rfl)) (mvT hZ (w_ hw 8 rfl)) (mvT hZ (w_ hw 85 rfl)) (by decide) (backOf (W := 0) (rm_sci l Z a0 hw [] j N2 G9 h0 n0 Z0 (by rw [hj]; exact own_notlt (by omega)) hlt S9 r9 OL) hZ (w_ hw 85 rfl) (w_ hw 8 rfl) (by decide) (by decide)) (g := (mkF m 3 #[.val (.ref t), .val (.int j)] [(.int N2), (.int j)])) rfl (by rw [hml]; rfl) (argsL := [(.int j), (.int N2)]) (rest := []) (lenOf pd_19 rfl) rfl (by show 2 * 0 + _ ≤ _; exact Nat.le_of_eq rfl) (hb hby d_jdk_43_method_2_3) (fun _ _ => ⟨rfl, e0, (by decide : 0 + 0 ≤ _), (by decide : 0 + 0 ≤ _)⟩)
  dsimp only [Pt.U, Pt.locs, Pt.cells, Pt.slots] at X102 l102 y102 z102 st102 hQ102
  subst l102 y102 z102
  obtain ⟨rfl, Nq102, e102_⟩ := hQ102
  have N102_ := Fr.app N0 Nq102
  refine Fin.by (fun tt_ kk_ => st102 tt_ kk_) ?_
  have e102 := e102_
  refine Fin.by (fun tt_ kk_ => XS.aloadN X102.here hx rfl (hb hby d_jdk_43_method_2_6) rfl rfl (XS.iloadN X102.here hx rfl (hb hby d_jdk_43_method_2_7) rfl kk_)) ?_
  obtain ⟨cl103, Ar103, q103, S103, N103, H103, G103⟩ := id A0
  have hin103 : ¬ (j < 0 ∨ cl103.slots.size ≤ j.toNatClampNeg) := within hj (by rw [S103]; exact hi) (by rw [S103]; exact hb2)
  refine Fin.by (fun tt_ kk_ => X102.baloadBytes hx (j := j) (v := (.int u)) (by rw [e102]; exact Ar103.1) (State.isArrayOf_alike hZ.alike Ar103.2.1) Ar103.2.2 hin103 (Has.at H103 hin103 (by rw [clamp_of hj (by omega)]; exact hu)) (g := (mkF m 8 #[.val (.ref t), .val (.int j)] [(.int j), (.ref t)])) rfl rfl (hb hby d_jdk_43_method_2_8) _ kk_) ?_
  refine Fin.by (fun tt_ kk_ => XS.sipush X102.here hx rfl (hb hby d_jdk_43_method_2_9) (XS.iand X102.here hx rfl (hb hby d_jdk_43_method_2_12) rfl (XS.i2c X102.here hx rfl (hb hby d_jdk_43_method_2_13) rfl kk_))) ?_
  show Fin _ _ _ _ _ _ _ (T102.setTop (mkF m 14 #[.val (.ref t), .val (.int j)] [(.int ((u &&& 255).toUInt32.toUInt16.toUInt32.toInt32))]))
  exact Fin.ret (v := some (.int (nar .char ((u &&& (255 : Int32)).toUInt32.toUInt16.toUInt32.toInt32)))) X102 (fun h => by rw [Bd.returns] at h; cases h) Bd.notSynchronized (by rw [e102]; exact ⟨rfl, N102_, rfl⟩) (by decide) (by decide) (fun fs hr => retN X102 hx (t := .char) Bd.returns (by simp) (hb hby d_jdk_43_method_2_14) hr)
theorem d_jdk_52_method_6_0 : decode jdk_52_method_6_code 0 = .ok (.aload_n 0, 1) := by decide +kernel
theorem d_jdk_52_method_6_1 : decode jdk_52_method_6_code 1 = .ok (.arraylength, 1) := by decide +kernel
theorem d_jdk_52_method_6_2 : decode jdk_52_method_6_code 2 = .ok (.iconst 1, 1) := by decide +kernel
theorem d_jdk_52_method_6_3 : decode jdk_52_method_6_code 3 = .ok (.ishr, 1) := by decide +kernel
theorem d_jdk_52_method_6_4 : decode jdk_52_method_6_code 4 = .ok (.ireturn, 1) := by decide +kernel
theorem pn_java_lang_StringUTF16 : plainName "java/lang/StringUTF16" = true := by first | (simp [plainName, overriddenIn]; done) | decide +kernel
def Q_ule (Z : State) (t : Addr) (kb : ClassId) (N2 : Int32) (vs : List Value) (h0 : Heap) (n0 : Nat) (vv_ : Option Value) (hh_ : Heap) (LL_ : List Loc) : Prop := vv_ = some (.int (N2 >>> ((1 : Int32) &&& 31))) ∧ Fr n0 LL_ ∧ hh_ = h0
set_option maxRecDepth 65536 in
set_option maxHeartbeats 40000000 in
theorem rm_ule (l : Launch) (Z : State) (a0 : Array Value) (hw : ∀ d ∈ tables_1, d.before a0 Z = true) (ws : List Jvm.Cond) (t : Addr) (kb : ClassId) (N2 : Int32) (vs : List Value) (h0 : Heap) (n0 : Nat) (Z0 : n0 ≤ h0.size) (A0 : Arv Z h0 t kb .byte N2 vs (.int 0)) :
    MetFree l (⟨"java/lang/StringUTF16", "length", "([B)I"⟩ : MethodName) (head1 (Jvm.Cond.code (⟨"java/lang/StringUTF16", "length", "([B)I"⟩ : MethodName) jdk_52_method_6_code 1 (some .int) :: ws) ({ frames := 0, cells := 0, slots := 0, locals := 0 } : Room)) (fun aa_ U => aa_ = #[(.ref t)] ∧ Z.Warmed39 U.vm ∧ U.heap = h0) (fun _ _ _ _ _ => True) (fun _ U o U' => ∃ vv_ LL_, o = .returned vv_ ∧ Q_ule Z t kb N2 vs h0 n0 vv_ U'.heap LL_ ∧ FrameEnd U o U' LL_ 0 0) := by
  refine MetFree.of_bodySF (plainFor_of_name pn_java_lang_StringUTF16) hisR ?_
  intro p e s m args below meth c s₁ Bd hml0 hP hK
  obtain ⟨rfl, hZ, hh⟩ := hP
  have hx := Bd.exec
  have hby := Bd.bytes
  have hml : c.maxLocals = 1 := hml0
  have hown : s.vm.findClass "java/lang/StringUTF16" = some m.cls := findClass_of_methodNamed Bd.named
  have hnm := (name_of_methodNamed Bd.named Bd.method).1
  have X0 : Stand p l e ({ frames := 0, cells := 0, slots := 0, locals := 0 } : Room) s m #[(.ref t)] below meth c s₁ [] 0 0 := Stand.of_body Bd
  have e0 : s₁.heap = h0 := by rw [← hh, Bd.state]; rfl
  have N0 := Fr.nil n0
  have ef : entryFrame m #[(.ref t)] 1 = mkF m 0 #[.val (.ref t)] [] := by first | (simp [entryFrame, mkF, argsToLocals, Value.category]; done) | rfl
  refine Fin.start (Q := Q_ule Z t kb N2 vs h0 n0) ef ?_
  refine Fin.by (fun tt_ kk_ => XS.aloadN X0.here hx rfl (hb hby d_jdk_52_method_6_0) rfl rfl kk_) ?_
  obtain ⟨cl101, Ar101, q101, S101, N101, H101, G101⟩ := id A0
  refine Fin.by (fun tt_ kk_ => X0.arraylength hx (by rw [e0]; exact Ar101.1) (State.isArrayOf_alike hZ.alike Ar101.2.1) (g := (mkF m 1 #[.val (.ref t)] [(.ref t)])) rfl rfl (hb hby d_jdk_52_method_6_1) _ kk_) ?_
  rw [len_of S101 N101]
  refine Fin.by (fun tt_ kk_ => XS.iconst X0.here hx rfl (hb hby d_jdk_52_method_6_2) (XS.ishr X0.here hx rfl (hb hby d_jdk_52_method_6_3) rfl kk_)) ?_
  show Fin _ _ _ _ _ _ _ (s₁.setTop (mkF m 4 #[.val (.ref t)] [(.int (N2 >>> (1 &&& 31)))]))
  exact Fin.ret (v := some (.int (N2 >>> ((1 : Int32) &&& 31)))) X0 (fun h => by rw [Bd.returns] at h; cases h) Bd.notSynchronized (by rw [e0]; exact ⟨rfl, N0, rfl⟩) (by decide) (by decide) (fun fs hr => retI X0 hx Bd.returns (hb hby d_jdk_52_method_6_4) hr)
abbrev y_2 : MethodName := (⟨"java/lang/StringUTF16", "length", "([B)I"⟩ : MethodName)
theorem d_jdk_52_method_91_0 : decode jdk_52_method_91_code 0 = .ok (.iload_n 0, 1) := by decide +kernel
theorem d_jdk_52_method_91_1 : decode jdk_52_method_91_code 1 = .ok (.aload_n 1, 1) := by decide +kernel
theorem pd_37 : parseMethodDescriptor "([B)I" = some ⟨[(.array .byte)], some .int⟩ := by decide +kernel
theorem d_jdk_52_method_91_2 : decode jdk_52_method_91_code 2 = .ok (.invokestatic 48, 3) := by decide +kernel
theorem d_jdk_52_method_91_5 : decode jdk_52_method_91_code 5 = .ok (.invokestatic 414, 3) := by decide +kernel
theorem d_jdk_52_method_91_8 : decode jdk_52_method_91_code 8 = .ok (.return_, 1) := by decide +kernel
def Q_uck (Z : State) (t : Addr) (kb : ClassId) (N2 : Int32) (vs : List Value) (j : Int32) (G9 : Value) (h0 : Heap) (n0 : Nat) (vv_ : Option Value) (hh_ : Heap) (LL_ : List Loc) : Prop := vv_ = none ∧ Fr n0 LL_ ∧ hh_ = h0
set_option maxRecDepth 65536 in
set_option maxHeartbeats 40000000 in
theorem rm_uck (l : Launch) (Z : State) (a0 : Array Value) (hw : ∀ d ∈ tables_1, d.before a0 Z = true) (ws : List Jvm.Cond) (t : Addr) (kb : ClassId) (N2 : Int32) (vs : List Value) (j : Int32) (G9 : Value) (h0 : Heap) (n0 : Nat) (Z0 : n0 ≤ h0.size) (hz0 : ¬ j < (0 : Int32)) (hz1 : j < (N2 >>> ((1 : Int32) &&& 31))) (A0 : Arv Z h0 t kb .byte N2 vs (.int 0)) (S9 : Sta Z Z.heap "jdk/internal/util/Preconditions" "SIOOBE_FORMATTER" "Ljava/util/function/BiFunction;" G9) (r9 : G9.isRef = true) (OL : Old Z n0 h0) :
    MetFree l (⟨"java/lang/StringUTF16", "checkIndex", "(I[B)V"⟩ : MethodName) (head1 (Jvm.Cond.code (⟨"java/lang/StringUTF16", "checkIndex", "(I[B)V"⟩ : MethodName) jdk_52_method_91_code 2 none :: ws) ({ frames := 2, cells := 0, slots := 0, locals := 27 } : Room)) (fun aa_ U => aa_ = #[(.int j), (.ref t)] ∧ Z.Warmed39 U.vm ∧ U.heap = h0) (fun _ _ _ _ _ => True) (fun _ U o U' => ∃ vv_ LL_, o = .returned vv_ ∧ Q_uck Z t kb N2 vs j G9 h0 n0 vv_ U'.heap LL_ ∧ FrameEnd U o U' LL_ 0 0) := by
  refine MetFree.of_bodySF (plainFor_of_name pn_java_lang_StringUTF16) hisR ?_
  intro p e s m args below meth c s₁ Bd hml0 hP hK
  obtain ⟨rfl, hZ, hh⟩ := hP
  have hx := Bd.exec
  have hby := Bd.bytes
  have hml : c.maxLocals = 2 := hml0
  have hown : s.vm.findClass "java/lang/StringUTF16" = some m.cls := findClass_of_methodNamed Bd.named
  have hnm := (name_of_methodNamed Bd.named Bd.method).1
  have X0 : Stand p l e ({ frames := 2, cells := 0, slots := 0, locals := 27 } : Room) s m #[(.int j), (.ref t)] below meth c s₁ [] 0 0 := Stand.of_body Bd
  have e0 : s₁.heap = h0 := by rw [← hh, Bd.state]; rfl
  have N0 := Fr.nil n0
  have ef : entryFrame m #[(.int j), (.ref t)] 2 = mkF m 0 #[.val (.int j), .val (.ref t)] [] := by first | (simp [entryFrame, mkF, argsToLocals, Value.category]; done) | rfl
  refine Fin.start (Q := Q_uck Z t kb N2 vs j G9 h0 n0) ef ?_
  refine Fin.by (fun tt_ kk_ => XS.iloadN X0.here hx rfl (hb hby d_jdk_52_method_91_0) rfl (XS.aloadN X0.here hx rfl (hb hby d_jdk_52_method_91_1) rfl rfl kk_)) ?_
  obtain ⟨v101, _, ⟨T101, L101, k101, n101⟩, -, X101, ⟨Lc101, hQ101, l101, y101, z101⟩, st101⟩ := Jvm.LawKit.callS X0 hx (y := y_2) hown (mvT hZ (w_ hw 122 rfl)) (mvT hZ (w_ hw 123 rfl)) (mvT hZ (w_ hw 64 rfl)) (mvT hZ (w_ hw 124 rfl)) (by decide) (backOf (W := 1) (rm_ule l Z a0 hw [] t kb N2 (vs : List Value) h0 n0 Z0 A0) hZ (w_ hw 124 rfl) (w_ hw 64 rfl) (by decide) (by decide)) (g := (mkF m 2 #[.val (.int j), .val (.ref t)] [(.ref t), (.int j)])) rfl (by rw [hml]; rfl) (argsL := [(.ref t)]) (rest := [(.int j)]) (lenOf pd_37 rfl) rfl (by show 2 * 0 + _ ≤ _; exact Nat.le_of_eq rfl) (hb hby d_jdk_52_method_91_2) (fun _ _ => ⟨rfl, e0, (by decide : 0 + 0 ≤ _), (by decide : 0 + 0 ≤ _)⟩)
  dsimp only [Pt.U, Pt.locs, Pt.cells, Pt.slots] at X101 l101 y101 z101 st101 hQ101
  subst l101 y101 z101
  obtain ⟨rfl, Nq101, e101_⟩ := hQ101
  have N101_ := Fr.app N0 Nq101
  refine Fin.by (fun tt_ kk_ => st101 tt_ kk_) ?_
  have e101 := e101_
  obtain ⟨v102, _, ⟨T102, L102, k102, n102⟩, -, X102, ⟨Lc102, hQ102, l102, y102, z102⟩, st102⟩ := Jvm.LawKit.callS X101 hx (y := y_1) hown (mvT hZ (w_ hw 137 rfl)) (mvT hZ (w_ hw 84 rfl)) (mvT hZ (w_ hw 8 rfl)) (mvT hZ (w_ hw 85 rfl)) (by decide) (backOf (W := 0) (rm_sci l Z a0 hw [] j (N2 >>> ((1 : Int32) &&& 31)) G9 h0 n0 Z0 hz0 hz1 S9 r9 OL) hZ (w_ hw 85 rfl) (w_ hw 8 rfl) (by decide) (by decide)) (g := (mkF m 5 #[.val (.int j), .val (.ref t)] [(.int (N2 >>> (1 &&& 31))), (.int j)])) rfl (by rw [hml]; rfl) (argsL := [(.int j), (.int (N2 >>> (1 &&& 31)))]) (rest := []) (lenOf pd_19 rfl) rfl (by show 2 * 0 + _ ≤ _; exact Nat.le_of_eq rfl) (hb hby d_jdk_52_method_91_5) (fun _ _ => ⟨rfl, e101, (by decide : 0 + 0 ≤ _), (by decide : 0 + 0 ≤ _)⟩)
  dsimp only [Pt.U, Pt.locs, Pt.cells, Pt.slots] at X102 l102 y102 z102 st102 hQ102
  subst l102 y102 z102
  obtain ⟨rfl, Nq102, e102_⟩ := hQ102
  have N102_ := Fr.app N101_ Nq102
  refine Fin.by (fun tt_ kk_ => st102 tt_ kk_) ?_
  have e102 := e102_
  show Fin _ _ _ _ _ _ _ (T102.setTop (mkF m 8 #[.val (.int j), .val (.ref t)] []))
  exact Fin.ret (v := none) X102 (fun _ => rfl) Bd.notSynchronized (by rw [e102]; exact ⟨rfl, N102_, rfl⟩) (by decide) (by decide) (fun fs hr => X102.returnOut hx Bd.returns (hb hby d_jdk_52_method_91_8) hr)
theorem d_jdk_52_method_5_0 : decode jdk_52_method_5_code 0 = .ok (.getstatic 44, 3) := by decide +kernel
theorem d_jdk_52_method_5_3 : decode jdk_52_method_5_code 3 = .ok (.ifCond .ne 25, 3) := by decide +kernel
theorem d_jdk_52_method_5_28 : decode jdk_52_method_5_code 28 = .ok (.iload_n 1, 1) := by decide +kernel
theorem d_jdk_52_method_5_29 : decode jdk_52_method_5_code 29 = .ok (.iconst 1, 1) := by decide +kernel
theorem d_jdk_52_method_5_30 : decode jdk_52_method_5_code 30 = .ok (.ishl, 1) := by decide +kernel
theorem d_jdk_52_method_5_31 : decode jdk_52_method_5_code 31 = .ok (.istore_n 1, 1) := by decide +kernel
theorem d_jdk_52_method_5_32 : decode jdk_52_method_5_code 32 = .ok (.aload_n 0, 1) := by decide +kernel
theorem d_jdk_52_method_5_33 : decode jdk_52_method_5_code 33 = .ok (.iload_n 1, 1) := by decide +kernel
theorem d_jdk_52_method_5_34 : decode jdk_52_method_5_code 34 = .ok (.iinc 1 1, 3) := by decide +kernel
theorem d_jdk_52_method_5_37 : decode jdk_52_method_5_code 37 = .ok (.baload, 1) := by decide +kernel
theorem d_jdk_52_method_5_38 : decode jdk_52_method_5_code 38 = .ok (.sipush 255, 3) := by decide +kernel
theorem d_jdk_52_method_5_41 : decode jdk_52_method_5_code 41 = .ok (.iand, 1) := by decide +kernel
theorem d_jdk_52_method_5_42 : decode jdk_52_method_5_code 42 = .ok (.getstatic 59, 3) := by decide +kernel
theorem d_jdk_52_method_5_45 : decode jdk_52_method_5_code 45 = .ok (.ishl, 1) := by decide +kernel
theorem d_jdk_52_method_5_46 : decode jdk_52_method_5_code 46 = .ok (.aload_n 0, 1) := by decide +kernel
theorem d_jdk_52_method_5_47 : decode jdk_52_method_5_code 47 = .ok (.iload_n 1, 1) := by decide +kernel
theorem d_jdk_52_method_5_48 : decode jdk_52_method_5_code 48 = .ok (.baload, 1) := by decide +kernel
theorem d_jdk_52_method_5_49 : decode jdk_52_method_5_code 49 = .ok (.sipush 255, 3) := by decide +kernel
theorem d_jdk_52_method_5_52 : decode jdk_52_method_5_code 52 = .ok (.iand, 1) := by decide +kernel
theorem d_jdk_52_method_5_53 : decode jdk_52_method_5_code 53 = .ok (.getstatic 63, 3) := by decide +kernel
theorem d_jdk_52_method_5_56 : decode jdk_52_method_5_code 56 = .ok (.ishl, 1) := by decide +kernel
theorem d_jdk_52_method_5_57 : decode jdk_52_method_5_code 57 = .ok (.ior, 1) := by decide +kernel
theorem d_jdk_52_method_5_58 : decode jdk_52_method_5_code 58 = .ok (.i2c, 1) := by decide +kernel
theorem d_jdk_52_method_5_59 : decode jdk_52_method_5_code 59 = .ok (.ireturn, 1) := by decide +kernel
def Q_uge (Z : State) (t : Addr) (kb : ClassId) (N2 : Int32) (vs : List Value) (i : Nat) (j : Int32) (u : Int32) (v : Int32) (h0 : Heap) (n0 : Nat) (vv_ : Option Value) (hh_ : Heap) (LL_ : List Loc) : Prop := vv_ = some (.int (nar .char (StrChars.pairCh u v))) ∧ Fr n0 LL_ ∧ hh_ = h0
set_option maxRecDepth 65536 in
set_option maxHeartbeats 40000000 in
theorem rm_uge (l : Launch) (Z : State) (a0 : Array Value) (hw : ∀ d ∈ tables_1, d.before a0 Z = true) (ws : List Jvm.Cond) (t : Addr) (kb : ClassId) (N2 : Int32) (vs : List Value) (i : Nat) (j : Int32) (u : Int32) (v : Int32) (h0 : Heap) (n0 : Nat) (Z0 : n0 ≤ h0.size) (hj : j = Int32.ofNat i) (hi : 2 * i + 1 < N2.toNatClampNeg) (hb2 : N2.toNatClampNeg < 2 ^ 29) (hu : vs.getD (2 * i) (.int 0) = .int u) (hv : vs.getD (2 * i + 1) (.int 0) = .int v) (A0 : Arv Z h0 t kb .byte N2 vs (.int 0)) (S6 : Sta Z Z.heap "java/lang/StringUTF16" "$assertionsDisabled" "Z" (.int (1 : Int32))) (S7 : Sta Z Z.heap "java/lang/StringUTF16" "HI_BYTE_SHIFT" "I" (.int (0 : Int32))) (S8 : Sta Z Z.heap "java/lang/StringUTF16" "LO_BYTE_SHIFT" "I" (.int (8 : Int32))) (OL : Old Z n0 h0) :
    MetFree l (⟨"java/lang/StringUTF16", "getChar", "([BI)C"⟩ : MethodName) (head1 (Jvm.Cond.code (⟨"java/lang/StringUTF16", "getChar", "([BI)C"⟩ : MethodName) jdk_52_method_5_code 2 (some .char) :: ws) ({ frames := 0, cells := 0, slots := 0, locals := 0 } : Room)) (fun aa_ U => aa_ = #[(.ref t), (.int j)] ∧ Z.Warmed39 U.vm ∧ U.heap = h0) (fun _ _ _ _ _ => True) (fun _ U o U' => ∃ vv_ LL_, o = .returned vv_ ∧ Q_uge Z t kb N2 vs i j u v h0 n0 vv_ U'.heap LL_ ∧ FrameEnd U o U' LL_ 0 0) := by
  refine MetFree.of_bodySF (plainFor_of_name pn_java_lang_StringUTF16) hisR ?_
  intro p e s m args below meth c s₁ Bd hml0 hP hK
  obtain ⟨rfl, hZ, hh⟩ := hP
  have hx := Bd.exec
  have hby := Bd.bytes
  have hml : c.maxLocals = 2 := hml0
  have hown : s.vm.findClass "java/lang/StringUTF16" = some m.cls := findClass_of_methodNamed Bd.named
  have hnm := (name_of_methodNamed Bd.named Bd.method).1
  have X0 : Stand p l e ({ frames := 0, cells := 0, slots := 0, locals := 0 } : Room) s m #[(.ref t), (.int j)] below meth c s₁ [] 0 0 := Stand.of_body Bd
  have e0 : s₁.heap = h0 := by rw [← hh, Bd.state]; rfl
  have N0 := Fr.nil n0
  have ef : entryFrame m #[(.ref t), (.int j)] 2 = mkF m 0 #[.val (.ref t), .val (.int j)] [] := by first | (simp [entryFrame, mkF, argsToLocals, Value.category]; done) | rfl
  refine Fin.start (Q := Q_uge Z t kb N2 vs i j u v h0 n0) ef ?_
  obtain ⟨T101, X101, e101, st101⟩ := getS X0 hx hZ (host := "") hown (w_ hw 107 rfl) Via.refl e0 (S6.ext OL.2) (g := (mkF m 0 #[.val (.ref t), .val (.int j)] [])) rfl (hb hby d_jdk_52_method_5_0)
  refine Fin.by (fun tt_ kk_ => st101 tt_ kk_) ?_
  show Fin _ _ _ _ _ _ _ (T101.setTop (mkF m 3 #[.val (.ref t), .val (.int j)] [(.int 1)]))
  refine Fin.by (fun tt_ kk_ => XS.ifYes X101.here hx rfl (pc0 := 3) (pc' := 28) rfl (hb hby d_jdk_52_method_5_3) rfl ((if0 _ _).trans (feq (by decide : ¬ (1 : Int32) = (0 : Int32))).2) (by decide) (by decide) kk_) ?_
  refine Fin.by (fun tt_ kk_ => XS.iloadN X101.here hx rfl (hb hby d_jdk_52_method_5_28) rfl (XS.iconst X101.here hx rfl (hb hby d_jdk_52_method_5_29) (XS.ishl X101.here hx rfl (hb hby d_jdk_52_method_5_30) rfl (XS.istoreN X101.here hx rfl (hb hby d_jdk_52_method_5_31) rfl (l' := #[.val (.ref t), .val (.int (j <<< (1 &&& 31)))]) rfl (XS.aloadN X101.here hx rfl (hb hby d_jdk_52_method_5_32) rfl rfl (XS.iloadN X101.here hx rfl (hb hby d_jdk_52_method_5_33) rfl (XS.iinc X101.here hx rfl (hb hby d_jdk_52_method_5_34) rfl (l' := #[.val (.ref t), .val (.int ((j <<< (1 &&& 31)) + 1))]) rfl kk_))))))) ?_
  have q1 : (j <<< ((1 : Int32) &&& 31)) = Int32.ofNat (2 * i) := by rw [hj]; exact own_shl1 (by omega)
  have q2 := own_ext q1
  obtain ⟨cl102, Ar102, q102, S102, N102, H102, G102⟩ := id A0
  have hin102 : ¬ ((j <<< ((1 : Int32) &&& 31)) < 0 ∨ cl102.slots.size ≤ (j <<< ((1 : Int32) &&& 31)).toNatClampNeg) := within q1 (by rw [S102]; omega) (by rw [S102]; omega)
  refine Fin.by (fun tt_ kk_ => X101.baloadBytes hx (j := (j <<< ((1 : Int32) &&& 31))) (v := (.int u)) (by rw [e101]; exact Ar102.1) (State.isArrayOf_alike hZ.alike Ar102.2.1) Ar102.2.2 hin102 (Has.at H102 hin102 (by rw [clamp_of q1 (by omega)]; exact hu)) (g := (mkF m 37 #[.val (.ref t), .val (.int ((j <<< (1 &&& 31)) + 1))] [(.int (j <<< (1 &&& 31))), (.ref t)])) rfl rfl (hb hby d_jdk_52_method_5_37) _ kk_) ?_
  refine Fin.by (fun tt_ kk_ => XS.sipush X101.here hx rfl (hb hby d_jdk_52_method_5_38) (XS.iand X101.here hx rfl (hb hby d_jdk_52_method_5_41) rfl kk_)) ?_
  obtain ⟨T103, X103, e103, st103⟩ := getS X101 hx hZ (host := "") hown (w_ hw 108 rfl) Via.refl e101 (S7.ext OL.2) (g := (mkF m 42 #[.val (.ref t), .val (.int ((j <<< (1 &&& 31)) + 1))] [(.int (u &&& 255))])) rfl (hb hby d_jdk_52_method_5_42)
  refine Fin.by (fun tt_ kk_ => st103 tt_ kk_) ?_
  refine Fin.by (fun tt_ kk_ => XS.ishl X103.here hx rfl (hb hby d_jdk_52_method_5_45) rfl (XS.aloadN X103.here hx rfl (hb hby d_jdk_52_method_5_46) rfl rfl (XS.iloadN X103.here hx rfl (hb hby d_jdk_52_method_5_47) rfl kk_))) ?_
  obtain ⟨cl104, Ar104, q104, S104, N104, H104, G104⟩ := id A0
  have hin104 : ¬ (((j <<< ((1 : Int32) &&& 31)) + (1 : Int32)) < 0 ∨ cl104.slots.size ≤ ((j <<< ((1 : Int32) &&& 31)) + (1 : Int32)).toNatClampNeg) := within q2 (by rw [S104]; omega) (by rw [S104]; omega)
  refine Fin.by (fun tt_ kk_ => X103.baloadBytes hx (j := ((j <<< ((1 : Int32) &&& 31)) + (1 : Int32))) (v := (.int v)) (by rw [e103]; exact Ar104.1) (State.isArrayOf_alike hZ.alike Ar104.2.1) Ar104.2.2 hin104 (Has.at H104 hin104 (by rw [clamp_of q2 (by omega)]; exact hv)) (g := (mkF m 48 #[.val (.ref t), .val (.int ((j <<< (1 &&& 31)) + 1))] [(.int ((j <<< (1 &&& 31)) + 1)), (.ref t), (.int ((u &&& 255) <<< (0 &&& 31)))])) rfl rfl (hb hby d_jdk_52_method_5_48) _ kk_) ?_
  refine Fin.by (fun tt_ kk_ => XS.sipush X103.here hx rfl (hb hby d_jdk_52_method_5_49) (XS.iand X103.here hx rfl (hb hby d_jdk_52_method_5_52) rfl kk_)) ?_
  obtain ⟨T105, X105, e105, st105⟩ := getS X103 hx hZ (host := "") hown (w_ hw 109 rfl) Via.refl e103 (S8.ext OL.2) (g := (mkF m 53 #[.val (.ref t), .val (.int ((j <<< (1 &&& 31)) + 1))] [(.int (v &&& 255)), (.int ((u &&& 255) <<< (0 &&& 31)))])) rfl (hb hby d_jdk_52_method_5_53)
  refine Fin.by (fun tt_ kk_ => st105 tt_ kk_) ?_
  refine Fin.by (fun tt_ kk_ => XS.ishl X105.here hx rfl (hb hby d_jdk_52_method_5_56) rfl (XS.ior X105.here hx rfl (hb hby d_jdk_52_method_5_57) rfl (XS.i2c X105.here hx rfl (hb hby d_jdk_52_method_5_58) rfl kk_))) ?_
  show Fin _ _ _ _ _ _ _ (T105.setTop (mkF m 59 #[.val (.ref t), .val (.int ((j <<< (1 &&& 31)) + 1))] [(.int ((((u &&& 255) <<< (0 &&& 31)) ||| ((v &&& 255) <<< (8 &&& 31))).toUInt32.toUInt16.toUInt32.toInt32))]))
  exact Fin.ret (v := some (.int (nar .char ((((u &&& (255 : Int32)) <<< ((0 : Int32) &&& 31)) ||| ((v &&& (255 : Int32)) <<< ((8 : Int32) &&& 31))).toUInt32.toUInt16.toUInt32.toInt32)))) X105 (fun h => by rw [Bd.returns] at h; cases h) Bd.notSynchronized (by rw [e105]; exact ⟨rfl, N0, rfl⟩) (by decide) (by decide) (fun fs hr => retN X105 hx (t := .char) Bd.returns (by simp) (hb hby d_jdk_52_method_5_59) hr)
abbrev y_3 : MethodName := (⟨"java/lang/StringUTF16", "checkIndex", "(I[B)V"⟩ : MethodName)
abbrev y_4 : MethodName := (⟨"java/lang/StringUTF16", "getChar", "([BI)C"⟩ : MethodName)
theorem d_jdk_52_method_83_0 : decode jdk_52_method_83_code 0 = .ok (.iload_n 1, 1) := by decide +kernel
theorem d_jdk_52_method_83_1 : decode jdk_52_method_83_code 1 = .ok (.aload_n 0, 1) := by decide +kernel
theorem pd_67 : parseMethodDescriptor "(I[B)V" = some ⟨[.int, (.array .byte)], none⟩ := by decide +kernel
theorem d_jdk_52_method_83_2 : decode jdk_52_method_83_code 2 = .ok (.invokestatic 67, 3) := by decide +kernel
theorem d_jdk_52_method_83_5 : decode jdk_52_method_83_code 5 = .ok (.aload_n 0, 1) := by decide +kernel
theorem d_jdk_52_method_83_6 : decode jdk_52_method_83_code 6 = .ok (.iload_n 1, 1) := by decide +kernel
theorem pd_71 : parseMethodDescriptor "([BI)C" = some ⟨[(.array .byte), .int], some .char⟩ := by decide +kernel
theorem d_jdk_52_method_83_7 : decode jdk_52_method_83_code 7 = .ok (.invokestatic 71, 3) := by decide +kernel
theorem d_jdk_52_method_83_10 : decode jdk_52_method_83_code 10 = .ok (.ireturn, 1) := by decide +kernel
def Q_uch (Z : State) (t : Addr) (kb : ClassId) (N2 : Int32) (vs : List Value) (i : Nat) (j : Int32) (u : Int32) (v : Int32) (G9 : Value) (h0 : Heap) (n0 : Nat) (vv_ : Option Value) (hh_ : Heap) (LL_ : List Loc) : Prop := vv_ = some (.int (nar .char (nar .char (StrChars.pairCh u v)))) ∧ Fr n0 LL_ ∧ hh_ = h0
set_option maxRecDepth 65536 in
set_option maxHeartbeats 40000000 in
theorem rm_uch (l : Launch) (Z : State) (a0 : Array Value) (hw : ∀ d ∈ tables_1, d.before a0 Z = true) (ws : List Jvm.Cond) (t : Addr) (kb : ClassId) (N2 : Int32) (vs : List Value) (i : Nat) (j : Int32) (u : Int32) (v : Int32) (G9 : Value) (h0 : Heap) (n0 : Nat) (Z0 : n0 ≤ h0.size) (hj : j = Int32.ofNat i) (hlt : j < (N2 >>> ((1 : Int32) &&& 31))) (hi : 2 * i + 1 < N2.toNatClampNeg) (hb2 : N2.toNatClampNeg < 2 ^ 29) (hu : vs.getD (2 * i) (.int 0) = .int u) (hv : vs.getD (2 * i + 1) (.int 0) = .int v) (A0 : Arv Z h0 t kb .byte N2 vs (.int 0)) (S6 : Sta Z Z.heap "java/lang/StringUTF16" "$assertionsDisabled" "Z" (.int (1 : Int32))) (S7 : Sta Z Z.heap "java/lang/StringUTF16" "HI_BYTE_SHIFT" "I" (.int (0 : Int32))) (S8 : Sta Z Z.heap "java/lang/StringUTF16" "LO_BYTE_SHIFT" "I" (.int (8 : Int32))) (S9 : Sta Z Z.heap "jdk/internal/util/Preconditions" "SIOOBE_FORMATTER" "Ljava/util/function/BiFunction;" G9) (r9 : G9.isRef = true) (OL : Old Z n0 h0) :
    MetFree l (⟨"java/lang/StringUTF16", "charAt", "([BI)C"⟩ : MethodName) (head1 (Jvm.Cond.code (⟨"java/lang/StringUTF16", "charAt", "([BI)C"⟩ : MethodName) jdk_52_method_83_code 2 (some .char) :: ws) ({ frames := 3, cells := 0, slots := 0, locals := 40 } : Room)) (fun aa_ U => aa_ = #[(.ref t), (.int j)] ∧ Z.Warmed39 U.vm ∧ U.heap = h0) (fun _ _ _ _ _ => True) (fun _ U o U' => ∃ vv_ LL_, o = .returned vv_ ∧ Q_uch Z t kb N2 vs i j u v G9 h0 n0 vv_ U'.heap LL_ ∧ FrameEnd U o U' LL_ 0 0) := by
  refine MetFree.of_bodySF (plainFor_of_name pn_java_lang_StringUTF16) hisR ?_
  intro p e s m args below meth c s₁ Bd hml0 hP hK
  obtain ⟨rfl, hZ, hh⟩ := hP
  have hx := Bd.exec
  have hby := Bd.bytes
  have hml : c.maxLocals = 2 := hml0
  have hown : s.vm.findClass "java/lang/StringUTF16" = some m.cls := findClass_of_methodNamed Bd.named
  have hnm := (name_of_methodNamed Bd.named Bd.method).1
  have X0 : Stand p l e ({ frames := 3, cells := 0, slots := 0, locals := 40 } : Room) s m #[(.ref t), (.int j)] below meth c s₁ [] 0 0 := Stand.of_body Bd
  have e0 : s₁.heap = h0 := by rw [← hh, Bd.state]; rfl
  have N0 := Fr.nil n0
  have ef : entryFrame m #[(.ref t), (.int j)] 2 = mkF m 0 #[.val (.ref t), .val (.int j)] [] := by first | (simp [entryFrame, mkF, argsToLocals, Value.category]; done) | rfl
  refine Fin.start (Q := Q_uch Z t kb N2 vs i j u v G9 h0 n0) ef ?_
  refine Fin.by (fun tt_ kk_ => XS.iloadN X0.here hx rfl (hb hby d_jdk_52_method_83_0) rfl (XS.aloadN X0.here hx rfl (hb hby d_jdk_52_method_83_1) rfl rfl kk_)) ?_
  obtain ⟨v101, _, ⟨T101, L101, k101, n101⟩, -, X101, ⟨Lc101, hQ101, l101, y101, z101⟩, st101⟩ := Jvm.LawKit.callS X0 hx (y := y_3) hown (mvT hZ (w_ hw 134 rfl)) (mvT hZ (w_ hw 135 rfl)) (mvT hZ (w_ hw 64 rfl)) (mvT hZ (w_ hw 136 rfl)) (by decide) (backOf (W := 0) (rm_uck l Z a0 hw [] t kb N2 (vs : List Value) j G9 h0 n0 Z0 (by rw [hj]; exact own_notlt (by omega)) hlt A0 S9 r9 OL) hZ (w_ hw 136 rfl) (w_ hw 64 rfl) (by decide) (by decide)) (g := (mkF m 2 #[.val (.ref t), .val (.int j)] [(.ref t), (.int j)])) rfl (by rw [hml]; rfl) (argsL := [(.int j), (.ref t)]) (rest := []) (lenOf pd_67 rfl) rfl (by show 2 * 0 + _ ≤ _; exact Nat.le_of_eq rfl) (hb hby d_jdk_52_method_83_2) (fun _ _ => ⟨rfl, e0, (by decide : 0 + 0 ≤ _), (by decide : 0 + 0 ≤ _)⟩)
  dsimp only [Pt.U, Pt.locs, Pt.cells, Pt.slots] at X101 l101 y101 z101 st101 hQ101
  subst l101 y101 z101
  obtain ⟨rfl, Nq101, e101_⟩ := hQ101
  have N101_ := Fr.app N0 Nq101
  refine Fin.by (fun tt_ kk_ => st101 tt_ kk_) ?_
  have e101 := e101_
  refine Fin.by (fun tt_ kk_ => XS.aloadN X101.here hx rfl (hb hby d_jdk_52_method_83_5) rfl rfl (XS.iloadN X101.here hx rfl (hb hby d_jdk_52_method_83_6) rfl kk_)) ?_
  obtain ⟨v102, _, ⟨T102, L102, k102, n102⟩, -, X102, ⟨Lc102, hQ102, l102, y102, z102⟩, st102⟩ := Jvm.LawKit.callS X101 hx (y := y_4) hown (mvT hZ (w_ hw 110 rfl)) (mvT hZ (w_ hw 111 rfl)) (mvT hZ (w_ hw 64 rfl)) (mvT hZ (w_ hw 112 rfl)) (by decide) (backOf (W := 0) (rm_uge l Z a0 hw [] t kb N2 (vs : List Value) i j u v h0 n0 Z0 hj hi hb2 hu hv A0 S6 S7 S8 OL) hZ (w_ hw 112 rfl) (w_ hw 64 rfl) (by decide) (by decide)) (g := (mkF m 7 #[.val (.ref t), .val (.int j)] [(.int j), (.ref t)])) rfl (by rw [hml]; rfl) (argsL := [(.ref t), (.int j)]) (rest := []) (lenOf pd_71 rfl) rfl (by show 2 * 0 + _ ≤ _; exact Nat.le_of_eq rfl) (hb hby d_jdk_52_method_83_7) (fun _ _ => ⟨rfl, e101, (by decide : 0 + 0 ≤ _), (by decide : 0 + 0 ≤ _)⟩)
  dsimp only [Pt.U, Pt.locs, Pt.cells, Pt.slots] at X102 l102 y102 z102 st102 hQ102
  subst l102 y102 z102
  obtain ⟨rfl, Nq102, e102_⟩ := hQ102
  have N102_ := Fr.app N101_ Nq102
  refine Fin.by (fun tt_ kk_ => st102 tt_ kk_) ?_
  have e102 := e102_
  show Fin _ _ _ _ _ _ _ (T102.setTop (mkF m 10 #[.val (.ref t), .val (.int j)] [(.int (nar .char (StrChars.pairCh u v)))]))
  exact Fin.ret (v := some (.int (nar .char (nar .char (StrChars.pairCh u v))))) X102 (fun h => by rw [Bd.returns] at h; cases h) Bd.notSynchronized (by rw [e102]; exact ⟨rfl, N102_, rfl⟩) (by decide) (by decide) (fun fs hr => retN X102 hx (t := .char) Bd.returns (by simp) (hb hby d_jdk_52_method_83_10) hr)
theorem d_jdk_42_method_154_0 : decode jdk_42_method_154_code 0 = .ok (.getstatic 38, 3) := by decide +kernel
theorem d_jdk_42_method_154_3 : decode jdk_42_method_154_code 3 = .ok (.ifCond .eq 14, 3) := by decide +kernel
theorem d_jdk_42_method_154_6 : decode jdk_42_method_154_code 6 = .ok (.aload_n 0, 1) := by decide +kernel
theorem d_jdk_42_method_154_7 : decode jdk_42_method_154_code 7 = .ok (.getfield 15, 3) := by decide +kernel
theorem d_jdk_42_method_154_10 : decode jdk_42_method_154_code 10 = .ok (.ifCond .ne 7, 3) := by decide +kernel
theorem d_jdk_42_method_154_13 : decode jdk_42_method_154_code 13 = .ok (.iconst 1, 1) := by decide +kernel
theorem d_jdk_42_method_154_14 : decode jdk_42_method_154_code 14 = .ok (.goto 4, 3) := by decide +kernel
theorem d_jdk_42_method_154_18 : decode jdk_42_method_154_code 18 = .ok (.ireturn, 1) := by decide +kernel
def Q_isl0 (Z : State) (x : Addr) (G1 : Int32) (h0 : Heap) (n0 : Nat) (vv_ : Option Value) (hh_ : Heap) (LL_ : List Loc) : Prop := vv_ = some (.int (nar .boolean (1 : Int32))) ∧ Fr n0 LL_ ∧ hh_ = h0
set_option maxRecDepth 65536 in
set_option maxHeartbeats 40000000 in
theorem rm_isl0 (l : Launch) (Z : State) (a0 : Array Value) (hw : ∀ d ∈ tables_1, d.before a0 Z = true) (ws : List Jvm.Cond) (x : Addr) (G1 : Int32) (h0 : Heap) (n0 : Nat) (Z0 : n0 ≤ h0.size) (F1 : Fld Z h0 x "java/lang/String" "coder" "B" (.int (0 : Int32))) (S1 : Sta Z Z.heap "java/lang/String" "COMPACT_STRINGS" "Z" (.int G1)) (P1 : ¬ G1 = 0) (OL : Old Z n0 h0) :
    MetFree l (⟨"java/lang/String", "isLatin1", "()Z"⟩ : MethodName) (head1 (Jvm.Cond.code (⟨"java/lang/String", "isLatin1", "()Z"⟩ : MethodName) jdk_42_method_154_code 1 (some .boolean) :: ws) ({ frames := 0, cells := 0, slots := 0, locals := 0 } : Room)) (fun aa_ U => aa_ = #[(.ref x)] ∧ Z.Warmed39 U.vm ∧ U.heap = h0) (fun _ _ _ _ _ => True) (fun _ U o U' => ∃ vv_ LL_, o = .returned vv_ ∧ Q_isl0 Z x G1 h0 n0 vv_ U'.heap LL_ ∧ FrameEnd U o U' LL_ 0 0) := by
  refine MetFree.of_bodySF (plainFor_of_name pn_java_lang_String) hisR ?_
  intro p e s m args below meth c s₁ Bd hml0 hP hK
  obtain ⟨rfl, hZ, hh⟩ := hP
  have hx := Bd.exec
  have hby := Bd.bytes
  have hml : c.maxLocals = 1 := hml0
  have hown : s.vm.findClass "java/lang/String" = some m.cls := findClass_of_methodNamed Bd.named
  have hnm := (name_of_methodNamed Bd.named Bd.method).1
  have X0 : Stand p l e ({ frames := 0, cells := 0, slots := 0, locals := 0 } : Room) s m #[(.ref x)] below meth c s₁ [] 0 0 := Stand.of_body Bd
  have e0 : s₁.heap = h0 := by rw [← hh, Bd.state]; rfl
  have N0 := Fr.nil n0
  have ef : entryFrame m #[(.ref x)] 1 = mkF m 0 #[.val (.ref x)] [] := by first | (simp [entryFrame, mkF, argsToLocals, Value.category]; done) | rfl
  refine Fin.start (Q := Q_isl0 Z x G1 h0 n0) ef ?_
  obtain ⟨T101, X101, e101, st101⟩ := getS X0 hx hZ (host := "") hown (w_ hw 42 rfl) Via.refl e0 (S1.ext OL.2) (g := (mkF m 0 #[.val (.ref x)] [])) rfl (hb hby d_jdk_42_method_154_0)
  refine Fin.by (fun tt_ kk_ => st101 tt_ kk_) ?_
  show Fin _ _ _ _ _ _ _ (T101.setTop (mkF m 3 #[.val (.ref x)] [(.int G1)]))
  refine Fin.by (fun tt_ kk_ => XS.ifNo X101.here hx rfl (hb hby d_jdk_42_method_154_3) rfl ((if0 _ _).trans (feq (P1 : ¬ G1 = (0 : Int32))).1) kk_) ?_
  refine Fin.by (fun tt_ kk_ => XS.aloadN X101.here hx rfl (hb hby d_jdk_42_method_154_6) rfl rfl kk_) ?_
  obtain ⟨T102, X102, e102, st102⟩ := getF X101 hx hZ hown (host := "") (Or.inl (w_ hw 27 rfl)) Via.refl e101 F1 (g := (mkF m 7 #[.val (.ref x)] [(.ref x)])) rfl rfl (hb hby d_jdk_42_method_154_7)
  refine Fin.by (fun tt_ kk_ => st102 tt_ kk_) ?_
  show Fin _ _ _ _ _ _ _ (T102.setTop (mkF m 10 #[.val (.ref x)] [(.int 0)]))
  refine Fin.by (fun tt_ kk_ => XS.ifNo X102.here hx rfl (hb hby d_jdk_42_method_154_10) rfl ((if0 _ _).trans (teq (by decide : (0 : Int32) = (0 : Int32))).2) kk_) ?_
  refine Fin.by (fun tt_ kk_ => XS.iconst X102.here hx rfl (hb hby d_jdk_42_method_154_13) (XS.goto X102.here hx rfl (pc0 := 14) (pc' := 18) rfl (hb hby d_jdk_42_method_154_14) (by decide) (by decide) kk_)) ?_
  show Fin _ _ _ _ _ _ _ (T102.setTop (mkF m 18 #[.val (.ref x)] [(.int 1)]))
  exact Fin.ret (v := some (.int (nar .boolean (1 : Int32)))) X102 (fun h => by rw [Bd.returns] at h; cases h) Bd.notSynchronized (by rw [e102]; exact ⟨rfl, N0, rfl⟩) (by decide) (by decide) (fun fs hr => retN X102 hx (t := .boolean) Bd.returns (by simp) (hb hby d_jdk_42_method_154_18) hr)
theorem d_jdk_42_method_154_17 : decode jdk_42_method_154_code 17 = .ok (.iconst 0, 1) := by decide +kernel
def Q_isl1 (Z : State) (x : Addr) (G1 : Int32) (h0 : Heap) (n0 : Nat) (vv_ : Option Value) (hh_ : Heap) (LL_ : List Loc) : Prop := vv_ = some (.int (nar .boolean (0 : Int32))) ∧ Fr n0 LL_ ∧ hh_ = h0
set_option maxRecDepth 65536 in
set_option maxHeartbeats 40000000 in
theorem rm_isl1 (l : Launch) (Z : State) (a0 : Array Value) (hw : ∀ d ∈ tables_1, d.before a0 Z = true) (ws : List Jvm.Cond) (x : Addr) (G1 : Int32) (h0 : Heap) (n0 : Nat) (Z0 : n0 ≤ h0.size) (F1 : Fld Z h0 x "java/lang/String" "coder" "B" (.int (1 : Int32))) (S1 : Sta Z Z.heap "java/lang/String" "COMPACT_STRINGS" "Z" (.int G1)) (P1 : ¬ G1 = 0) (OL : Old Z n0 h0) :
    MetFree l (⟨"java/lang/String", "isLatin1", "()Z"⟩ : MethodName) (head1 (Jvm.Cond.code (⟨"java/lang/String", "isLatin1", "()Z"⟩ : MethodName) jdk_42_method_154_code 1 (some .boolean) :: ws) ({ frames := 0, cells := 0, slots := 0, locals := 0 } : Room)) (fun aa_ U => aa_ = #[(.ref x)] ∧ Z.Warmed39 U.vm ∧ U.heap = h0) (fun _ _ _ _ _ => True) (fun _ U o U' => ∃ vv_ LL_, o = .returned vv_ ∧ Q_isl1 Z x G1 h0 n0 vv_ U'.heap LL_ ∧ FrameEnd U o U' LL_ 0 0) := by
  refine MetFree.of_bodySF (plainFor_of_name pn_java_lang_String) hisR ?_
  intro p e s m args below meth c s₁ Bd hml0 hP hK
  obtain ⟨rfl, hZ, hh⟩ := hP
  have hx := Bd.exec
  have hby := Bd.bytes
  have hml : c.maxLocals = 1 := hml0
  have hown : s.vm.findClass "java/lang/String" = some m.cls := findClass_of_methodNamed Bd.named
  have hnm := (name_of_methodNamed Bd.named Bd.method).1
  have X0 : Stand p l e ({ frames := 0, cells := 0, slots := 0, locals := 0 } : Room) s m #[(.ref x)] below meth c s₁ [] 0 0 := Stand.of_body Bd
  have e0 : s₁.heap = h0 := by rw [← hh, Bd.state]; rfl
  have N0 := Fr.nil n0
  have ef : entryFrame m #[(.ref x)] 1 = mkF m 0 #[.val (.ref x)] [] := by first | (simp [entryFrame, mkF, argsToLocals, Value.category]; done) | rfl
  refine Fin.start (Q := Q_isl1 Z x G1 h0 n0) ef ?_
  obtain ⟨T101, X101, e101, st101⟩ := getS X0 hx hZ (host := "") hown (w_ hw 42 rfl) Via.refl e0 (S1.ext OL.2) (g := (mkF m 0 #[.val (.ref x)] [])) rfl (hb hby d_jdk_42_method_154_0)
  refine Fin.by (fun tt_ kk_ => st101 tt_ kk_) ?_
  show Fin _ _ _ _ _ _ _ (T101.setTop (mkF m 3 #[.val (.ref x)] [(.int G1)]))
  refine Fin.by (fun tt_ kk_ => XS.ifNo X101.here hx rfl (hb hby d_jdk_42_method_154_3) rfl ((if0 _ _).trans (feq (P1 : ¬ G1 = (0 : Int32))).1) kk_) ?_
  refine Fin.by (fun tt_ kk_ => XS.aloadN X101.here hx rfl (hb hby d_jdk_42_method_154_6) rfl rfl kk_) ?_
  obtain ⟨T102, X102, e102, st102⟩ := getF X101 hx hZ hown (host := "") (Or.inl (w_ hw 27 rfl)) Via.refl e101 F1 (g := (mkF m 7 #[.val (.ref x)] [(.ref x)])) rfl rfl (hb hby d_jdk_42_method_154_7)
  refine Fin.by (fun tt_ kk_ => st102 tt_ kk_) ?_
  show Fin _ _ _ _ _ _ _ (T102.setTop (mkF m 10 #[.val (.ref x)] [(.int 1)]))
  refine Fin.by (fun tt_ kk_ => XS.ifYes X102.here hx rfl (pc0 := 10) (pc' := 17) rfl (hb hby d_jdk_42_method_154_10) rfl ((if0 _ _).trans (feq (by decide : ¬ (1 : Int32) = (0 : Int32))).2) (by decide) (by decide) kk_) ?_
  refine Fin.by (fun tt_ kk_ => XS.iconst X102.here hx rfl (hb hby d_jdk_42_method_154_17) kk_) ?_
  show Fin _ _ _ _ _ _ _ (T102.setTop (mkF m 18 #[.val (.ref x)] [(.int 0)]))
  exact Fin.ret (v := some (.int (nar .boolean (0 : Int32)))) X102 (fun h => by rw [Bd.returns] at h; cases h) Bd.notSynchronized (by rw [e102]; exact ⟨rfl, N0, rfl⟩) (by decide) (by decide) (fun fs hr => retN X102 hx (t := .boolean) Bd.returns (by simp) (hb hby d_jdk_42_method_154_18) hr)
abbrev y_5 : MethodName := (⟨"java/lang/String", "isLatin1", "()Z"⟩ : MethodName)
abbrev y_6 : MethodName := (⟨"java/lang/StringLatin1", "charAt", "([BI)C"⟩ : MethodName)
abbrev y_7 : MethodName := (⟨"java/lang/StringUTF16", "charAt", "([BI)C"⟩ : MethodName)
theorem d_jdk_42_method_56_0 : decode jdk_42_method_56_code 0 = .ok (.aload_n 0, 1) := by decide +kernel
theorem pd_84 : parseMethodDescriptor "()Z" = some ⟨[], some .boolean⟩ := by decide +kernel
theorem d_jdk_42_method_56_1 : decode jdk_42_method_56_code 1 = .ok (.invokevirtual 492, 3) := by decide +kernel
theorem d_jdk_42_method_56_4 : decode jdk_42_method_56_code 4 = .ok (.ifCond .eq 12, 3) := by decide +kernel
theorem d_jdk_42_method_56_7 : decode jdk_42_method_56_code 7 = .ok (.aload_n 0, 1) := by decide +kernel
theorem d_jdk_42_method_56_8 : decode jdk_42_method_56_code 8 = .ok (.getfield 9, 3) := by decide +kernel
theorem d_jdk_42_method_56_11 : decode jdk_42_method_56_code 11 = .ok (.iload_n 1, 1) := by decide +kernel
theorem d_jdk_42_method_56_12 : decode jdk_42_method_56_code 12 = .ok (.invokestatic 495, 3) := by decide +kernel
theorem d_jdk_42_method_56_15 : decode jdk_42_method_56_code 15 = .ok (.ireturn, 1) := by decide +kernel
theorem d_jdk_42_method_56_16 : decode jdk_42_method_56_code 16 = .ok (.aload_n 0, 1) := by decide +kernel
theorem d_jdk_42_method_56_17 : decode jdk_42_method_56_code 17 = .ok (.getfield 9, 3) := by decide +kernel
theorem d_jdk_42_method_56_20 : decode jdk_42_method_56_code 20 = .ok (.iload_n 1, 1) := by decide +kernel
theorem d_jdk_42_method_56_21 : decode jdk_42_method_56_code 21 = .ok (.invokestatic 498, 3) := by decide +kernel
theorem d_jdk_42_method_56_24 : decode jdk_42_method_56_code 24 = .ok (.ireturn, 1) := by decide +kernel
def Q_chA (Z : State) (x : Addr) (t : Addr) (kb : ClassId) (N2 : Int32) (vs : List Value) (cs : List Int32) (cd : Int32) (i : Nat) (j : Int32) (G1 : Int32) (G9 : Value) (h0 : Heap) (n0 : Nat) (vv_ : Option Value) (hh_ : Heap) (LL_ : List Loc) : Prop := vv_ = some (.int (cs.getD i 0)) ∧ Fr n0 LL_ ∧ hh_ = h0
set_option maxRecDepth 65536 in
set_option maxHeartbeats 40000000 in
theorem rm_chA (l : Launch) (Z : State) (a0 : Array Value) (hw : ∀ d ∈ tables_1, d.before a0 Z = true) (ws : List Jvm.Cond) (x : Addr) (t : Addr) (kb : ClassId) (N2 : Int32) (vs : List Value) (cs : List Int32) (cd : Int32) (i : Nat) (j : Int32) (G1 : Int32) (G9 : Value) (h0 : Heap) (n0 : Nat) (Z0 : n0 ≤ h0.size) (hc : StrChars.Road.CodA cs cd N2 vs) (hb3 : ∀ c ∈ cs, ¬ c < 0 ∧ ¬ (65535 : Int32) < c) (l2 : cs.length ≤ 4000) (hi : i < cs.length) (hj : j = Int32.ofNat i) (E0 : Exa Z h0 x "java/lang/String") (F0 : Fld Z h0 x "java/lang/String" "value" "[B" (.ref t)) (F1 : Fld Z h0 x "java/lang/String" "coder" "B" (.int cd)) (A0 : Arv Z h0 t kb .byte N2 vs (.int 0)) (S1 : Sta Z Z.heap "java/lang/String" "COMPACT_STRINGS" "Z" (.int G1)) (P1 : ¬ G1 = 0) (S6 : Sta Z Z.heap "java/lang/StringUTF16" "$assertionsDisabled" "Z" (.int (1 : Int32))) (S7 : Sta Z Z.heap "java/lang/StringUTF16" "HI_BYTE_SHIFT" "I" (.int (0 : Int32))) (S8 : Sta Z Z.heap "java/lang/StringUTF16" "LO_BYTE_SHIFT" "I" (.int (8 : Int32))) (S9 : Sta Z Z.heap "jdk/internal/util/Preconditions" "SIOOBE_FORMATTER" "Ljava/util/function/BiFunction;" G9) (r9 : G9.isRef = true) (OL : Old Z n0 h0) :
    MetFree l (⟨"java/lang/String", "charAt", "(I)C"⟩ : MethodName) (head1 (Jvm.Cond.code (⟨"java/lang/String", "charAt", "(I)C"⟩ : MethodName) jdk_42_method_56_code 2 (some .char) :: ws) ({ frames := 4, cells := 0, slots := 0, locals := 53 } : Room)) (fun aa_ U => aa_ = #[(.ref x), (.int j)] ∧ Z.Warmed39 U.vm ∧ U.heap = h0) (fun _ _ _ _ _ => True) (fun _ U o U' => ∃ vv_ LL_, o = .returned vv_ ∧ Q_chA Z x t kb N2 vs cs cd i j G1 G9 h0 n0 vv_ U'.heap LL_ ∧ FrameEnd U o U' LL_ 0 0) := by
  refine MetFree.of_bodySF (plainFor_of_name pn_java_lang_String) hisR ?_
  intro p e s m args below meth c s₁ Bd hml0 hP hK
  obtain ⟨rfl, hZ, hh⟩ := hP
  have hx := Bd.exec
  have hby := Bd.bytes
  have hml : c.maxLocals = 2 := hml0
  have hown : s.vm.findClass "java/lang/String" = some m.cls := findClass_of_methodNamed Bd.named
  have hnm := (name_of_methodNamed Bd.named Bd.method).1
  have X0 : Stand p l e ({ frames := 4, cells := 0, slots := 0, locals := 53 } : Room) s m #[(.ref x), (.int j)] below meth c s₁ [] 0 0 := Stand.of_body Bd
  have e0 : s₁.heap = h0 := by rw [← hh, Bd.state]; rfl
  have N0 := Fr.nil n0
  have ef : entryFrame m #[(.ref x), (.int j)] 2 = mkF m 0 #[.val (.ref x), .val (.int j)] [] := by first | (simp [entryFrame, mkF, argsToLocals, Value.category]; done) | rfl
  refine Fin.start (Q := Q_chA Z x t kb N2 vs cs cd i j G1 G9 h0 n0) ef ?_
  rcases id hc with ⟨hcd, hN2, hvs, hlat⟩ | ⟨hcd, hN2, hvs, -⟩
  · subst hcd
    have hlen : N2.toNatClampNeg = cs.length := by rw [hN2]; exact clamp_of rfl (by omega)
    refine Fin.by (fun tt_ kk_ => XS.aloadN X0.here hx rfl (hb hby d_jdk_42_method_56_0) rfl rfl kk_) ?_
    obtain ⟨cq101, kq101, qa101, qb101, qc101⟩ := isOf hZ e0 E0
    obtain ⟨v101, _, ⟨T101, L101, k101, n101⟩, -, X101, ⟨Lc101, hQ101, l101, y101, z101⟩, st101⟩ := X0.virtualBack hx (y := y_5) (z := y_5) hown (mvT hZ (w_ hw 37 rfl)) (mvT hZ (w_ hw 38 rfl)) (notFace_of_selects (args := #[]) (mvT hZ (w_ hw 40 rfl))) (mvT hZ (w_ hw 40 rfl)) (mvT hZ (w_ hw 39 rfl)) (by decide) (backOf (W := 0) (rm_isl0 l Z a0 hw [] x G1 h0 n0 Z0 F1 S1 P1 OL) hZ (w_ hw 41 rfl) (w_ hw 8 rfl) (by decide) (by decide)) qa101 qc101 (g := (mkF m 1 #[.val (.ref x), .val (.int j)] [(.ref x)])) rfl (by rw [hml]; rfl) (Steps.refl _) (argsL := []) (rest := []) (lenOf pd_84 rfl) rfl (by show 2 * 0 + _ ≤ _; exact Nat.le_of_eq rfl) (hb hby d_jdk_42_method_56_1) (fun _ _ => ⟨rfl, e0, (by decide : 0 + 0 ≤ _), (by decide : 0 + 0 ≤ _)⟩)
    dsimp only [Pt.U, Pt.locs, Pt.cells, Pt.slots] at X101 l101 y101 z101 st101 hQ101
    subst l101 y101 z101
    obtain ⟨rfl, Nq101, e101_⟩ := hQ101
    have N101_ := Fr.app N0 Nq101
    refine Fin.byS st101 ?_
    have e101 := e101_
    show Fin _ _ _ _ _ _ _ (T101.setTop (mkF m 4 #[.val (.ref x), .val (.int j)] [(.int (nar .boolean 1))]))
    refine Fin.by (fun tt_ kk_ => XS.ifNo X101.here hx rfl (hb hby d_jdk_42_method_56_4) rfl ((if0 _ _).trans (feq (by decide : ¬ (nar .boolean (1 : Int32)) = (0 : Int32))).1) kk_) ?_
    refine Fin.by (fun tt_ kk_ => XS.aloadN X101.here hx rfl (hb hby d_jdk_42_method_56_7) rfl rfl kk_) ?_
    obtain ⟨T102, X102, e102, st102⟩ := getF X101 hx hZ hown (host := "") (Or.inl (w_ hw 26 rfl)) Via.refl e101 F0 (g := (mkF m 8 #[.val (.ref x), .val (.int j)] [(.ref x)])) rfl rfl (hb hby d_jdk_42_method_56_8)
    refine Fin.by (fun tt_ kk_ => st102 tt_ kk_) ?_
    refine Fin.by (fun tt_ kk_ => XS.iloadN X102.here hx rfl (hb hby d_jdk_42_method_56_11) rfl kk_) ?_
    obtain ⟨v103, _, ⟨T103, L103, k103, n103⟩, -, X103, ⟨Lc103, hQ103, l103, y103, z103⟩, st103⟩ := Jvm.LawKit.callS X102 hx (y := y_6) hown (mvT hZ (w_ hw 80 rfl)) (mvT hZ (w_ hw 81 rfl)) (mvT hZ (w_ hw 45 rfl)) (mvT hZ (w_ hw 82 rfl)) (by decide) (backOf (W := 0) (rm_lch l Z a0 hw [] t kb N2 (vs : List Value) i j (StrChars.lo8 (cs.getD i 0)) G9 h0 n0 Z0 hj (by rw [hj, hN2]; exact own_ltn hi (by omega)) (by omega) (by omega) (by rw [hvs]; exact StrChars.Road.low_at _ _ _ hi) A0 S9 r9 OL) hZ (w_ hw 82 rfl) (w_ hw 45 rfl) (by decide) (by decide)) (g := (mkF m 12 #[.val (.ref x), .val (.int j)] [(.int j), (.ref t)])) rfl (by rw [hml]; rfl) (argsL := [(.ref t), (.int j)]) (rest := []) (lenOf pd_71 rfl) rfl (by show 2 * 0 + _ ≤ _; exact Nat.le_of_eq rfl) (hb hby d_jdk_42_method_56_12) (fun _ _ => ⟨rfl, e102, (by decide : 0 + 0 ≤ _), (by decide : 0 + 0 ≤ _)⟩)
    dsimp only [Pt.U, Pt.locs, Pt.cells, Pt.slots] at X103 l103 y103 z103 st103 hQ103
    subst l103 y103 z103
    obtain ⟨rfl, Nq103, e103_⟩ := hQ103
    have N103_ := Fr.app N101_ Nq103
    refine Fin.by (fun tt_ kk_ => st103 tt_ kk_) ?_
    have e103 := e103_
    show Fin _ _ _ _ _ _ _ (T103.setTop (mkF m 15 #[.val (.ref x), .val (.int j)] [(.int (nar .char (((StrChars.lo8 (cs.getD i 0)) &&& 255).toUInt32.toUInt16.toUInt32.toInt32)))]))
    exact Fin.ret (v := some (.int (nar .char (nar .char (((StrChars.lo8 (cs.getD i 0)) &&& (255 : Int32)).toUInt32.toUInt16.toUInt32.toInt32))))) X103 (fun h => by rw [Bd.returns] at h; cases h) Bd.notSynchronized (by rw [e103]; exact ⟨(congrArg (fun q => some (Value.int q)) (own_lat hb3 hlat hi).symm).symm, N103_, rfl⟩) (by decide) (by decide) (fun fs hr => retN X103 hx (t := .char) Bd.returns (by simp) (hb hby d_jdk_42_method_56_15) hr)
  · subst hcd
    have hlen : N2.toNatClampNeg = 2 * cs.length := by rw [hN2]; exact clamp_of rfl (by omega)
    refine Fin.by (fun tt_ kk_ => XS.aloadN X0.here hx rfl (hb hby d_jdk_42_method_56_0) rfl rfl kk_) ?_
    obtain ⟨cq104, kq104, qa104, qb104, qc104⟩ := isOf hZ e0 E0
    obtain ⟨v104, _, ⟨T104, L104, k104, n104⟩, -, X104, ⟨Lc104, hQ104, l104, y104, z104⟩, st104⟩ := X0.virtualBack hx (y := y_5) (z := y_5) hown (mvT hZ (w_ hw 37 rfl)) (mvT hZ (w_ hw 38 rfl)) (notFace_of_selects (args := #[]) (mvT hZ (w_ hw 40 rfl))) (mvT hZ (w_ hw 40 rfl)) (mvT hZ (w_ hw 39 rfl)) (by decide) (backOf (W := 0) (rm_isl1 l Z a0 hw [] x G1 h0 n0 Z0 F1 S1 P1 OL) hZ (w_ hw 41 rfl) (w_ hw 8 rfl) (by decide) (by decide)) qa104 qc104 (g := (mkF m 1 #[.val (.ref x), .val (.int j)] [(.ref x)])) rfl (by rw [hml]; rfl) (Steps.refl _) (argsL := []) (rest := []) (lenOf pd_84 rfl) rfl (by show 2 * 0 + _ ≤ _; exact Nat.le_of_eq rfl) (hb hby d_jdk_42_method_56_1) (fun _ _ => ⟨rfl, e0, (by decide : 0 + 0 ≤ _), (by decide : 0 + 0 ≤ _)⟩)
    dsimp only [Pt.U, Pt.locs, Pt.cells, Pt.slots] at X104 l104 y104 z104 st104 hQ104
    subst l104 y104 z104
    obtain ⟨rfl, Nq104, e104_⟩ := hQ104
    have N104_ := Fr.app N0 Nq104
    refine Fin.byS st104 ?_
    have e104 := e104_
    show Fin _ _ _ _ _ _ _ (T104.setTop (mkF m 4 #[.val (.ref x), .val (.int j)] [(.int (nar .boolean 0))]))
    refine Fin.by (fun tt_ kk_ => XS.ifYes X104.here hx rfl (pc0 := 4) (pc' := 16) rfl (hb hby d_jdk_42_method_56_4) rfl ((if0 _ _).trans (teq (by decide : (nar .boolean (0 : Int32)) = (0 : Int32))).1) (by decide) (by decide) kk_) ?_
    refine Fin.by (fun tt_ kk_ => XS.aloadN X104.here hx rfl (hb hby d_jdk_42_method_56_16) rfl rfl kk_) ?_
    obtain ⟨T105, X105, e105, st105⟩ := getF X104 hx hZ hown (host := "") (Or.inl (w_ hw 26 rfl)) Via.refl e104 F0 (g := (mkF m 17 #[.val (.ref x), .val (.int j)] [(.ref x)])) rfl rfl (hb hby d_jdk_42_method_56_17)
    refine Fin.by (fun tt_ kk_ => st105 tt_ kk_) ?_
    refine Fin.by (fun tt_ kk_ => XS.iloadN X105.here hx rfl (hb hby d_jdk_42_method_56_20) rfl kk_) ?_
    obtain ⟨v106, _, ⟨T106, L106, k106, n106⟩, -, X106, ⟨Lc106, hQ106, l106, y106, z106⟩, st106⟩ := Jvm.LawKit.callS X105 hx (y := y_7) hown (mvT hZ (w_ hw 131 rfl)) (mvT hZ (w_ hw 132 rfl)) (mvT hZ (w_ hw 64 rfl)) (mvT hZ (w_ hw 133 rfl)) (by decide) (backOf (W := 0) (rm_uch l Z a0 hw [] t kb N2 (vs : List Value) i j (StrChars.lo8 (cs.getD i 0)) (StrChars.hi8 (cs.getD i 0)) G9 h0 n0 Z0 hj (by rw [hj, hN2, StrChars.shr1 (by omega)]; exact own_ltn hi (by omega)) (by omega) (by omega) (by rw [hvs]; exact StrChars.Road.wide_lo _ _ _ hi) (by rw [hvs]; exact StrChars.Road.wide_hi _ _ _ hi) A0 S6 S7 S8 S9 r9 OL) hZ (w_ hw 133 rfl) (w_ hw 64 rfl) (by decide) (by decide)) (g := (mkF m 21 #[.val (.ref x), .val (.int j)] [(.int j), (.ref t)])) rfl (by rw [hml]; rfl) (argsL := [(.ref t), (.int j)]) (rest := []) (lenOf pd_71 rfl) rfl (by show 2 * 0 + _ ≤ _; exact Nat.le_of_eq rfl) (hb hby d_jdk_42_method_56_21) (fun _ _ => ⟨rfl, e105, (by decide : 0 + 0 ≤ _), (by decide : 0 + 0 ≤ _)⟩)
    dsimp only [Pt.U, Pt.locs, Pt.cells, Pt.slots] at X106 l106 y106 z106 st106 hQ106
    subst l106 y106 z106
    obtain ⟨rfl, Nq106, e106_⟩ := hQ106
    have N106_ := Fr.app N104_ Nq106
    refine Fin.by (fun tt_ kk_ => st106 tt_ kk_) ?_
    have e106 := e106_
    show Fin _ _ _ _ _ _ _ (T106.setTop (mkF m 24 #[.val (.ref x), .val (.int j)] [(.int (nar .char (nar .char (StrChars.pairCh (StrChars.lo8 (cs.getD i 0)) (StrChars.hi8 (cs.getD i 0))))))]))
    exact Fin.ret (v := some (.int (nar .char (nar .char (nar .char (StrChars.pairCh (StrChars.lo8 (cs.getD i 0)) (StrChars.hi8 (cs.getD i 0)))))))) X106 (fun h => by rw [Bd.returns] at h; cases h) Bd.notSynchronized (by rw [e106]; exact ⟨(congrArg (fun q => some (Value.int q)) (own_wid hb3 hi).symm).symm, N106_, rfl⟩) (by decide) (by decide) (fun fs hr => retN X106 hx (t := .char) Bd.returns (by simp) (hb hby d_jdk_42_method_56_24) hr)
theorem d_jdk_52_method_21_0 : decode jdk_52_method_21_code 0 = .ok (.iconst 0, 1) := by decide +kernel
theorem d_jdk_52_method_21_1 : decode jdk_52_method_21_code 1 = .ok (.istore 5, 2) := by decide +kernel
theorem d_jdk_52_method_21_3 : decode jdk_52_method_21_code 3 = .ok (.iload 5, 2) := by decide +kernel
theorem d_jdk_52_method_21_5 : decode jdk_52_method_21_code 5 = .ok (.iload 4, 2) := by decide +kernel
theorem d_jdk_52_method_21_7 : decode jdk_52_method_21_code 7 = .ok (.if_icmp .ge 37, 3) := by decide +kernel
theorem d_jdk_52_method_21_44 : decode jdk_52_method_21_code 44 = .ok (.iload 4, 2) := by decide +kernel
theorem d_jdk_52_method_21_46 : decode jdk_52_method_21_code 46 = .ok (.ireturn, 1) := by decide +kernel
theorem d_jdk_52_method_21_10 : decode jdk_52_method_21_code 10 = .ok (.aload_n 0, 1) := by decide +kernel
theorem d_jdk_52_method_21_11 : decode jdk_52_method_21_code 11 = .ok (.iload_n 1, 1) := by decide +kernel
theorem d_jdk_52_method_21_12 : decode jdk_52_method_21_code 12 = .ok (.caload, 1) := by decide +kernel
theorem d_jdk_52_method_21_13 : decode jdk_52_method_21_code 13 = .ok (.istore 6, 2) := by decide +kernel
theorem d_jdk_52_method_21_15 : decode jdk_52_method_21_code 15 = .ok (.iload 6, 2) := by decide +kernel
theorem d_jdk_52_method_21_17 : decode jdk_52_method_21_code 17 = .ok (.sipush 255, 3) := by decide +kernel
theorem d_jdk_52_method_21_20 : decode jdk_52_method_21_code 20 = .ok (.if_icmp .le 6, 3) := by decide +kernel
theorem d_jdk_52_method_21_23 : decode jdk_52_method_21_code 23 = .ok (.iload 5, 2) := by decide +kernel
theorem d_jdk_52_method_21_25 : decode jdk_52_method_21_code 25 = .ok (.ireturn, 1) := by decide +kernel
theorem d_jdk_52_method_21_26 : decode jdk_52_method_21_code 26 = .ok (.aload_n 2, 1) := by decide +kernel
theorem d_jdk_52_method_21_27 : decode jdk_52_method_21_code 27 = .ok (.iload_n 3, 1) := by decide +kernel
theorem d_jdk_52_method_21_28 : decode jdk_52_method_21_code 28 = .ok (.iload 6, 2) := by decide +kernel
theorem d_jdk_52_method_21_30 : decode jdk_52_method_21_code 30 = .ok (.i2b, 1) := by decide +kernel
theorem d_jdk_52_method_21_31 : decode jdk_52_method_21_code 31 = .ok (.bastore, 1) := by decide +kernel
theorem d_jdk_52_method_21_32 : decode jdk_52_method_21_code 32 = .ok (.iinc 1 1, 3) := by decide +kernel
theorem d_jdk_52_method_21_35 : decode jdk_52_method_21_code 35 = .ok (.iinc 3 1, 3) := by decide +kernel
theorem d_jdk_52_method_21_38 : decode jdk_52_method_21_code 38 = .ok (.iinc 5 1, 3) := by decide +kernel
theorem d_jdk_52_method_21_41 : decode jdk_52_method_21_code 41 = .ok (.goto (-38), 3) := by decide +kernel
def Q_c5g (Z : State) (b : Addr) (kb : ClassId) (d : Addr) (kd : ClassId) (cs : List Int32) (h0 : Heap) (n0 : Nat) (vv_ : Option Value) (hh_ : Heap) (LL_ : List Loc) : Prop := ∃ (r : Int32), ∃ (vs : List Value), vv_ = some (.int r) ∧ Fr n0 LL_ ∧ Keep h0 hh_ [d] ∧ Arv Z hh_ d kd .byte (Int32.ofNat cs.length) vs (.int (0 : Int32)) ∧ ((r = Int32.ofNat cs.length ∧ vs = cs.map own_flo ∧ ∀ c ∈ cs, ¬ (255 : Int32) < c) ∨ (∃ i : Nat, i < cs.length ∧ r = Int32.ofNat i ∧ (255 : Int32) < cs.getD i 0))
set_option maxRecDepth 65536 in
set_option maxHeartbeats 40000000 in
theorem rm_c5g (l : Launch) (Z : State) (a0 : Array Value) (hw : ∀ d ∈ tables_1, d.before a0 Z = true) (ws : List Jvm.Cond) (b : Addr) (kb : ClassId) (d : Addr) (kd : ClassId) (cs : List Int32) (h0 : Heap) (n0 : Nat) (Z0 : n0 ≤ h0.size) (Ab : Arv Z h0 b kb .char (Int32.ofNat cs.length) (cs.map Value.int) (.int (0 : Int32))) (Ad : Arv Z h0 d kd .byte (Int32.ofNat cs.length) [] (.int (0 : Int32))) (gd : n0 ≤ d) (nbd : b ≠ d) (l5 : cs.length ≤ 5) :
    MetFree l (⟨"java/lang/StringUTF16", "compress", "([CI[BII)I"⟩ : MethodName) (head1 (Jvm.Cond.code (⟨"java/lang/StringUTF16", "compress", "([CI[BII)I"⟩ : MethodName) jdk_52_method_21_code 7 (some .int) :: ws) ({ frames := 0, cells := 0, slots := 0, locals := 0 } : Room)) (fun aa_ U => aa_ = #[(.ref b), (.int (0 : Int32)), (.ref d), (.int (0 : Int32)), (.int (Int32.ofNat cs.length))] ∧ Z.Warmed39 U.vm ∧ U.heap = h0) (fun _ _ _ _ _ => True) (fun _ U o U' => ∃ vv_ LL_, o = .returned vv_ ∧ Q_c5g Z b kb d kd cs h0 n0 vv_ U'.heap LL_ ∧ FrameEnd U o U' LL_ 0 0) := by
  refine MetFree.of_bodySF (plainFor_of_name pn_java_lang_StringUTF16) hisR ?_
  intro p e s m args below meth c s₁ Bd hml0 hP hK
  obtain ⟨rfl, hZ, hh⟩ := hP
  have hx := Bd.exec
  have hby := Bd.bytes
  have hml : c.maxLocals = 7 := hml0
  have hown : s.vm.findClass "java/lang/StringUTF16" = some m.cls := findClass_of_methodNamed Bd.named
  have hnm := (name_of_methodNamed Bd.named Bd.method).1
  have X0 : Stand p l e ({ frames := 0, cells := 0, slots := 0, locals := 0 } : Room) s m #[(.ref b), (.int (0 : Int32)), (.ref d), (.int (0 : Int32)), (.int (Int32.ofNat cs.length))] below meth c s₁ [] 0 0 := Stand.of_body Bd
  have e0 : s₁.heap = h0 := by rw [← hh, Bd.state]; rfl
  have N0 := Fr.nil n0
  have ef : entryFrame m #[(.ref b), (.int (0 : Int32)), (.ref d), (.int (0 : Int32)), (.int (Int32.ofNat cs.length))] 7 = mkF m 0 #[.val (.ref b), .val (.int (0 : Int32)), .val (.ref d), .val (.int (0 : Int32)), .val (.int (Int32.ofNat cs.length)), .unset, .unset] [] := by first | (simp [entryFrame, mkF, argsToLocals, Value.category]; done) | rfl
  refine Fin.start (Q := Q_c5g Z b kb d kd cs h0 n0) ef ?_
  refine Fin.by (fun tt_ kk_ => XS.iconst X0.here hx rfl (hb hby d_jdk_52_method_21_0) (XS.istore X0.here hx rfl (hb hby d_jdk_52_method_21_1) rfl (l' := #[.val (.ref b), .val (.int 0), .val (.ref d), .val (.int 0), .val (.int (Int32.ofNat cs.length)), .val (.int 0), .unset]) rfl kk_)) ?_
  have J3 : ∀ fu : Nat, ∀ (T101 : State) (h102 : Heap) (lc103 : List Loc) (i : Nat) (j : Int32) (s6 : Slot), Stand p l e ({ frames := 0, cells := 0, slots := 0, locals := 0 } : Room) s m #[(.ref b), (.int (0 : Int32)), (.ref d), (.int (0 : Int32)), (.int (Int32.ofNat cs.length))] below meth c T101 lc103 0 0 → T101.heap = h102 → Fr n0 lc103 → Keep h0 h102 [d] → (fu = cs.length - i) → (j = Int32.ofNat i) → (i ≤ cs.length) → (s6 = Slot.unset ∨ ∃ v, s6 = Slot.val v ∧ v.category = 1) → (∀ k, k < i → ¬ (255 : Int32) < cs.getD k 0) → (Arv Z h102 d kd .byte (Int32.ofNat cs.length) ((cs.take i).map own_flo) (.int (0 : Int32))) → Fin p e below s (Q_c5g Z b kb d kd cs h0 n0) 0 0 (T101.setTop (mkF m 3 #[.val (.ref b), .val (.int j), .val (.ref d), .val (.int j), .val (.int (Int32.ofNat cs.length)), .val (.int j), s6] [])) := by
    intro fu
    induction fu using Nat.strongRecOn with
    | ind fu ih =>
      intro T101 h102 lc103 i j s6 X104 e105 N106 K107 hf hj hil hs6 hal jA
      refine Fin.by (fun tt_ kk_ => XS.iload X104.here hx rfl (hb hby d_jdk_52_method_21_3) rfl (XS.iload X104.here hx rfl (hb hby d_jdk_52_method_21_5) rfl kk_)) ?_
      show Fin _ _ _ _ _ _ _ (T101.setTop (mkF m 7 #[.val (.ref b), .val (.int j), .val (.ref d), .val (.int j), .val (.int (Int32.ofNat cs.length)), .val (.int j), s6] [(.int (Int32.ofNat cs.length)), (.int j)]))
      by_cases hlt : j < (Int32.ofNat cs.length)
      · refine Fin.by (fun tt_ kk_ => XS.icmpNo X104.here hx rfl (hb hby d_jdk_52_method_21_7) rfl (tlt hlt).2.1 kk_) ?_
        have hi := own_ltof hj hlt hil (by omega)
        refine Fin.by (fun tt_ kk_ => XS.aloadN X104.here hx rfl (hb hby d_jdk_52_method_21_10) rfl rfl (XS.iloadN X104.here hx rfl (hb hby d_jdk_52_method_21_11) rfl kk_)) ?_
        have A109 : Arv Z h102 b kb .char (Int32.ofNat cs.length) (cs.map Value.int) (.int (0 : Int32)) := (Ab.keep K107 (ninS nbd nin0))
        obtain ⟨cl110, Ar110, q110, S110, N110, H110, G110⟩ := id A109
        have hin110 : ¬ (j < 0 ∨ cl110.slots.size ≤ j.toNatClampNeg) := within hj (by rw [S110, own_cl (by omega)]; exact hi) (by rw [S110, own_cl (by omega)]; omega)
        refine Fin.by (fun tt_ kk_ => X104.caload hx (j := j) (v := (.int (cs.getD i 0))) (by rw [e105]; exact Ar110.1) (State.isArrayOf_alike hZ.alike Ar110.2.1) Ar110.2.2 hin110 (Has.at H110 hin110 (by rw [clamp_of hj (by omega)]; exact own_mapget hi)) (g := (mkF m 12 #[.val (.ref b), .val (.int j), .val (.ref d), .val (.int j), .val (.int (Int32.ofNat cs.length)), .val (.int j), s6] [(.int j), (.ref b)])) rfl rfl (hb hby d_jdk_52_method_21_12) _ kk_) ?_
        refine Fin.by (fun tt_ kk_ => XS.istore X104.here hx rfl (hb hby d_jdk_52_method_21_13) rfl (l' := #[.val (.ref b), .val (.int j), .val (.ref d), .val (.int j), .val (.int (Int32.ofNat cs.length)), .val (.int j), .val (.int (cs.getD i 0))]) (XS.store1 (o := s6) rfl hs6 rfl) (XS.iload X104.here hx rfl (hb hby d_jdk_52_method_21_15) rfl (XS.sipush X104.here hx rfl (hb hby d_jdk_52_method_21_17) kk_))) ?_
        show Fin _ _ _ _ _ _ _ (T101.setTop (mkF m 20 #[.val (.ref b), .val (.int j), .val (.ref d), .val (.int j), .val (.int (Int32.ofNat cs.length)), .val (.int j), .val (.int (cs.getD i 0))] [(.int 255), (.int (cs.getD i 0))]))
        by_cases hx8 : (255 : Int32) < (cs.getD i 0)
        · refine Fin.by (fun tt_ kk_ => XS.icmpNo X104.here hx rfl (hb hby d_jdk_52_method_21_20) rfl (tlt hx8).2.2.2 kk_) ?_
          refine Fin.by (fun tt_ kk_ => XS.iload X104.here hx rfl (hb hby d_jdk_52_method_21_23) rfl kk_) ?_
          have kp111 : Keep h0 h102 [d] := (Keep.refl h0 [d]).trans K107 (allS (Or.inl (List.mem_of_getElem? (i := 0) rfl)) all0)
          show Fin _ _ _ _ _ _ _ (T101.setTop (mkF m 25 #[.val (.ref b), .val (.int j), .val (.ref d), .val (.int j), .val (.int (Int32.ofNat cs.length)), .val (.int j), .val (.int (cs.getD i 0))] [(.int j)]))
          exact Fin.ret (v := some (.int j)) X104 (fun h => by rw [Bd.returns] at h; cases h) Bd.notSynchronized (by rw [e105]; exact ⟨j, ((cs.take i).map own_flo), rfl, N106, kp111, jA, (Or.inr ⟨i, hi, hj, hx8⟩)⟩) (by decide) (by decide) (fun fs hr => retI X104 hx Bd.returns (hb hby d_jdk_52_method_21_25) hr)
        · refine Fin.by (fun tt_ kk_ => XS.icmpYes X104.here hx rfl (pc0 := 20) (pc' := 26) rfl (hb hby d_jdk_52_method_21_20) rfl (flt hx8).2.2.2 (by decide) (by decide) kk_) ?_
          refine Fin.by (fun tt_ kk_ => XS.aloadN X104.here hx rfl (hb hby d_jdk_52_method_21_26) rfl rfl (XS.iloadN X104.here hx rfl (hb hby d_jdk_52_method_21_27) rfl (XS.iload X104.here hx rfl (hb hby d_jdk_52_method_21_28) rfl (XS.i2b X104.here hx rfl (hb hby d_jdk_52_method_21_30) rfl kk_)))) ?_
          obtain ⟨cl112, Ar112, q112, S112, N112, H112, G112⟩ := id jA
          have hin112 : ¬ (j < 0 ∨ cl112.slots.size ≤ j.toNatClampNeg) := within hj (by rw [S112, own_cl (by omega)]; exact hi) (by rw [S112, own_cl (by omega)]; omega)
          obtain ⟨T112, h112, X112, e112, W112, st112⟩ := stB X104 hx hZ e105 Ar112 (j := j) hin112 (g := (mkF m 31 #[.val (.ref b), .val (.int j), .val (.ref d), .val (.int j), .val (.int (Int32.ofNat cs.length)), .val (.int j), .val (.int (cs.getD i 0))] [(.int ((cs.getD i 0).toInt8.toInt32)), (.int j), (.ref d)])) rfl rfl (hb hby d_jdk_52_method_21_31)
          have V112 : Arv Z h112 d kd .byte (Int32.ofNat cs.length) (((cs.take i).map own_flo) ++ [(.int (((cs.getD i 0).toInt8.toInt32).toInt8.toInt32))]) (.int (0 : Int32)) := own_push Ar112 q112 S112 N112 H112 G112 (fits_nar_byte _) W112 (by rw [clamp_of hj (by omega), own_tlen hil])
          refine Fin.by (fun tt_ kk_ => st112 tt_ kk_) ?_
          have N112_ := Fr.snoc X112 N106 gd
          have V113 : Arv Z h112 d kd .byte (Int32.ofNat cs.length) ((cs.take (i + 1)).map own_flo) (.int (0 : Int32)) := by have q := V112; rw [own_i8, show Value.int (cs.getD i 0).toInt8.toInt32 = own_flo (cs.getD i 0) from rfl, own_tk1 own_flo hi] at q; exact q
          refine Fin.by (fun tt_ kk_ => XS.iinc X112.here hx rfl (hb hby d_jdk_52_method_21_32) rfl (l' := #[.val (.ref b), .val (.int (j + 1)), .val (.ref d), .val (.int j), .val (.int (Int32.ofNat cs.length)), .val (.int j), .val (.int (cs.getD i 0))]) rfl (XS.iinc X112.here hx rfl (hb hby d_jdk_52_method_21_35) rfl (l' := #[.val (.ref b), .val (.int (j + 1)), .val (.ref d), .val (.int (j + 1)), .val (.int (Int32.ofNat cs.length)), .val (.int j), .val (.int (cs.getD i 0))]) rfl (XS.iinc X112.here hx rfl (hb hby d_jdk_52_method_21_38) rfl (l' := #[.val (.ref b), .val (.int (j + 1)), .val (.ref d), .val (.int (j + 1)), .val (.int (Int32.ofNat cs.length)), .val (.int (j + 1)), .val (.int (cs.getD i 0))]) rfl (XS.goto X112.here hx rfl (pc0 := 41) (pc' := 3) rfl (hb hby d_jdk_52_method_21_41) (by decide) (by decide) kk_)))) ?_
          show Fin _ _ _ _ _ _ _ (T112.setTop (mkF m 3 #[.val (.ref b), .val (.int (j + 1)), .val (.ref d), .val (.int (j + 1)), .val (.int (Int32.ofNat cs.length)), .val (.int (j + 1)), .val (.int (cs.getD i 0))] []))
          have kp114 : Keep h0 h102 [d] := (Keep.refl h0 [d]).trans K107 (allS (Or.inl (List.mem_of_getElem? (i := 0) rfl)) all0)
          have kp115 : Keep h0 h112 [d] := kp114.wr W112 (Or.inl (List.mem_of_getElem? (i := 0) rfl))
          exact ih (cs.length - (i + 1)) (by omega) T112 h112 _ (i + 1) (j + (1 : Int32)) (Slot.val (.int (cs.getD i 0))) X112 e112 N112_ kp115 rfl (own_ext hj) hi (Or.inr ⟨_, rfl, rfl⟩) (fun k hk => (Nat.lt_succ_iff_lt_or_eq.mp hk).elim (hal k) (fun q => q ▸ hx8)) V113
      · refine Fin.by (fun tt_ kk_ => XS.icmpYes X104.here hx rfl (pc0 := 7) (pc' := 44) rfl (hb hby d_jdk_52_method_21_7) rfl (flt hlt).2.1 (by decide) (by decide) kk_) ?_
        obtain rfl := own_geof hj hlt hil (by omega)
        refine Fin.by (fun tt_ kk_ => XS.iload X104.here hx rfl (hb hby d_jdk_52_method_21_44) rfl kk_) ?_
        have kp108 : Keep h0 h102 [d] := (Keep.refl h0 [d]).trans K107 (allS (Or.inl (List.mem_of_getElem? (i := 0) rfl)) all0)
        show Fin _ _ _ _ _ _ _ (T101.setTop (mkF m 46 #[.val (.ref b), .val (.int j), .val (.ref d), .val (.int j), .val (.int (Int32.ofNat cs.length)), .val (.int j), s6] [(.int (Int32.ofNat cs.length))]))
        exact Fin.ret (v := some (.int (Int32.ofNat cs.length))) X104 (fun h => by rw [Bd.returns] at h; cases h) Bd.notSynchronized (by rw [e105]; exact ⟨(Int32.ofNat cs.length), ((cs.take cs.length).map own_flo), rfl, N106, kp108, jA, (Or.inl ⟨rfl, by rw [List.take_length], own_all hal⟩)⟩) (by decide) (by decide) (fun fs hr => retI X104 hx Bd.returns (hb hby d_jdk_52_method_21_46) hr)
  show Fin _ _ _ _ _ _ _ (s₁.setTop (mkF m 3 #[.val (.ref b), .val (.int 0), .val (.ref d), .val (.int 0), .val (.int (Int32.ofNat cs.length)), .val (.int 0), .unset] []))
  exact J3 (cs.length - 0) s₁ h0 _ 0 (0 : Int32) Slot.unset X0 e0 N0 (Keep.refl h0 [d]) rfl rfl (Nat.zero_le _) (Or.inl rfl) (fun k hk => absurd hk (Nat.not_lt_zero k)) Ad
theorem d_jdk_52_method_3_0 : decode jdk_52_method_3_code 0 = .ok (.iload_n 0, 1) := by decide +kernel
theorem d_jdk_52_method_3_1 : decode jdk_52_method_3_code 1 = .ok (.ifCond .ge 11, 3) := by decide +kernel
theorem d_jdk_52_method_3_12 : decode jdk_52_method_3_code 12 = .ok (.iload_n 0, 1) := by decide +kernel
theorem d_jdk_52_method_3_13 : decode jdk_52_method_3_code 13 = .ok (.ldc 20, 2) := by decide +kernel
theorem d_jdk_52_method_3_15 : decode jdk_52_method_3_code 15 = .ok (.if_icmp .lt 40, 3) := by decide +kernel
theorem d_jdk_52_method_3_55 : decode jdk_52_method_3_code 55 = .ok (.iload_n 0, 1) := by decide +kernel
theorem d_jdk_52_method_3_56 : decode jdk_52_method_3_code 56 = .ok (.iconst 1, 1) := by decide +kernel
theorem d_jdk_52_method_3_57 : decode jdk_52_method_3_code 57 = .ok (.ishl, 1) := by decide +kernel
theorem d_jdk_52_method_3_58 : decode jdk_52_method_3_code 58 = .ok (.ireturn, 1) := by decide +kernel
def Q_nblg (Z : State) (n : Nat) (h0 : Heap) (n0 : Nat) (vv_ : Option Value) (hh_ : Heap) (LL_ : List Loc) : Prop := vv_ = some (.int (Int32.ofNat (2 * n))) ∧ Fr n0 LL_ ∧ hh_ = h0
set_option maxRecDepth 65536 in
set_option maxHeartbeats 40000000 in
theorem rm_nblg (l : Launch) (Z : State) (a0 : Array Value) (hw : ∀ d ∈ tables_1, d.before a0 Z = true) (ws : List Jvm.Cond) (n : Nat) (h0 : Heap) (n0 : Nat) (Z0 : n0 ≤ h0.size) (l5 : n ≤ 5) :
    MetFree l (⟨"java/lang/StringUTF16", "newBytesLength", "(I)I"⟩ : MethodName) (head1 (Jvm.Cond.code (⟨"java/lang/StringUTF16", "newBytesLength", "(I)I"⟩ : MethodName) jdk_52_method_3_code 1 (some .int) :: ws) ({ frames := 0, cells := 0, slots := 0, locals := 0 } : Room)) (fun aa_ U => aa_ = #[(.int (Int32.ofNat n))] ∧ Z.Warmed39 U.vm ∧ U.heap = h0) (fun _ _ _ _ _ => True) (fun _ U o U' => ∃ vv_ LL_, o = .returned vv_ ∧ Q_nblg Z n h0 n0 vv_ U'.heap LL_ ∧ FrameEnd U o U' LL_ 0 0) := by
  refine MetFree.of_bodySF (plainFor_of_name pn_java_lang_StringUTF16) hisR ?_
  intro p e s m args below meth c s₁ Bd hml0 hP hK
  obtain ⟨rfl, hZ, hh⟩ := hP
  have hx := Bd.exec
  have hby := Bd.bytes
  have hml : c.maxLocals = 1 := hml0
  have hown : s.vm.findClass "java/lang/StringUTF16" = some m.cls := findClass_of_methodNamed Bd.named
  have hnm := (name_of_methodNamed Bd.named Bd.method).1
  have X0 : Stand p l e ({ frames := 0, cells := 0, slots := 0, locals := 0 } : Room) s m #[(.int (Int32.ofNat n))] below meth c s₁ [] 0 0 := Stand.of_body Bd
  have e0 : s₁.heap = h0 := by rw [← hh, Bd.state]; rfl
  have N0 := Fr.nil n0
  have ef : entryFrame m #[(.int (Int32.ofNat n))] 1 = mkF m 0 #[.val (.int (Int32.ofNat n))] [] := by first | (simp [entryFrame, mkF, argsToLocals, Value.category]; done) | rfl
  refine Fin.start (Q := Q_nblg Z n h0 n0) ef ?_
  refine Fin.by (fun tt_ kk_ => XS.iloadN X0.here hx rfl (hb hby d_jdk_52_method_3_0) rfl kk_) ?_
  show Fin _ _ _ _ _ _ _ (s₁.setTop (mkF m 1 #[.val (.int (Int32.ofNat n))] [(.int (Int32.ofNat n))]))
  refine Fin.by (fun tt_ kk_ => XS.ifYes X0.here hx rfl (pc0 := 1) (pc' := 12) rfl (hb hby d_jdk_52_method_3_1) rfl ((if0 _ _).trans (flt (own_notlt (by omega) : ¬ (Int32.ofNat n) < (0 : Int32))).2.1) (by decide) (by decide) kk_) ?_
  refine Fin.by (fun tt_ kk_ => XS.iloadN X0.here hx rfl (hb hby d_jdk_52_method_3_12) rfl kk_) ?_
  refine Fin.by (fun tt_ kk_ => X0.ldcInt hx hown (mvT hZ (w_ hw 103 rfl)) (g := (mkF m 13 #[.val (.int (Int32.ofNat n))] [(.int (Int32.ofNat n))])) rfl (hb hby d_jdk_52_method_3_13) _ kk_) ?_
  show Fin _ _ _ _ _ _ _ (s₁.setTop (mkF m 15 #[.val (.int (Int32.ofNat n))] [(.int 1073741823), (.int (Int32.ofNat n))]))
  refine Fin.by (fun tt_ kk_ => XS.icmpYes X0.here hx rfl (pc0 := 15) (pc' := 55) rfl (hb hby d_jdk_52_method_3_15) rfl (tlt (own_big (by omega) : (Int32.ofNat n) < (1073741823 : Int32))).1 (by decide) (by decide) kk_) ?_
  refine Fin.by (fun tt_ kk_ => XS.iloadN X0.here hx rfl (hb hby d_jdk_52_method_3_55) rfl (XS.iconst X0.here hx rfl (hb hby d_jdk_52_method_3_56) (XS.ishl X0.here hx rfl (hb hby d_jdk_52_method_3_57) rfl kk_))) ?_
  show Fin _ _ _ _ _ _ _ (s₁.setTop (mkF m 58 #[.val (.int (Int32.ofNat n))] [(.int ((Int32.ofNat n) <<< (1 &&& 31)))]))
  exact Fin.ret (v := some (.int ((Int32.ofNat n) <<< ((1 : Int32) &&& 31)))) X0 (fun h => by rw [Bd.returns] at h; cases h) Bd.notSynchronized (by rw [e0]; exact ⟨(congrArg (fun q => some (Value.int q)) (own_shl1 (by omega))), N0, rfl⟩) (by decide) (by decide) (fun fs hr => retI X0 hx Bd.returns (hb hby d_jdk_52_method_3_58) hr)
abbrev y_8 : MethodName := (⟨"java/lang/StringUTF16", "newBytesLength", "(I)I"⟩ : MethodName)
theorem d_jdk_52_method_2_0 : decode jdk_52_method_2_code 0 = .ok (.iload_n 0, 1) := by decide +kernel
theorem pd_132 : parseMethodDescriptor "(I)I" = some ⟨[.int], some .int⟩ := by decide +kernel
theorem d_jdk_52_method_2_1 : decode jdk_52_method_2_code 1 = .ok (.invokestatic 11, 3) := by decide +kernel
theorem d_jdk_52_method_2_4 : decode jdk_52_method_2_code 4 = .ok (.newarray .byte, 2) := by decide +kernel
theorem d_jdk_52_method_2_6 : decode jdk_52_method_2_code 6 = .ok (.areturn, 1) := by decide +kernel
def Q_nbfg (Z : State) (n : Nat) (h0 : Heap) (n0 : Nat) (vv_ : Option Value) (hh_ : Heap) (LL_ : List Loc) : Prop := ∃ (t : Addr), ∃ (k : ClassId), vv_ = some (.ref t) ∧ Fr n0 LL_ ∧ Keep h0 hh_ [] ∧ h0.size ≤ t ∧ Arv Z hh_ t k .byte (Int32.ofNat (2 * n)) [] (.int (0 : Int32))
set_option maxRecDepth 65536 in
set_option maxHeartbeats 40000000 in
theorem rm_nbfg (l : Launch) (Z : State) (a0 : Array Value) (hw : ∀ d ∈ tables_1, d.before a0 Z = true) (ws : List Jvm.Cond) (n : Nat) (h0 : Heap) (n0 : Nat) (Z0 : n0 ≤ h0.size) (l5 : n ≤ 5) :
    MetFree l (⟨"java/lang/StringUTF16", "newBytesFor", "(I)[B"⟩ : MethodName) (head1 (Jvm.Cond.code (⟨"java/lang/StringUTF16", "newBytesFor", "(I)[B"⟩ : MethodName) jdk_52_method_2_code 1 (some (.array .byte)) :: ws) ({ frames := 1, cells := 1, slots := 10, locals := 12 } : Room)) (fun aa_ U => aa_ = #[(.int (Int32.ofNat n))] ∧ Z.Warmed39 U.vm ∧ U.heap = h0) (fun _ _ _ _ _ => True) (fun _ U o U' => ∃ vv_ LL_, o = .returned vv_ ∧ Q_nbfg Z n h0 n0 vv_ U'.heap LL_ ∧ FrameEnd U o U' LL_ 1 10) := by
  refine MetFree.of_bodySF (plainFor_of_name pn_java_lang_StringUTF16) hisR ?_
  intro p e s m args below meth c s₁ Bd hml0 hP hK
  obtain ⟨rfl, hZ, hh⟩ := hP
  have hx := Bd.exec
  have hby := Bd.bytes
  have hml : c.maxLocals = 1 := hml0
  have hown : s.vm.findClass "java/lang/StringUTF16" = some m.cls := findClass_of_methodNamed Bd.named
  have hnm := (name_of_methodNamed Bd.named Bd.method).1
  have X0 : Stand p l e ({ frames := 1, cells := 1, slots := 10, locals := 12 } : Room) s m #[(.int (Int32.ofNat n))] below meth c s₁ [] 0 0 := Stand.of_body Bd
  have e0 : s₁.heap = h0 := by rw [← hh, Bd.state]; rfl
  have N0 := Fr.nil n0
  have ef : entryFrame m #[(.int (Int32.ofNat n))] 1 = mkF m 0 #[.val (.int (Int32.ofNat n))] [] := by first | (simp [entryFrame, mkF, argsToLocals, Value.category]; done) | rfl
  refine Fin.start (Q := Q_nbfg Z n h0 n0) ef ?_
  refine Fin.by (fun tt_ kk_ => XS.iloadN X0.here hx rfl (hb hby d_jdk_52_method_2_0) rfl kk_) ?_
  obtain ⟨v101, _, ⟨T101, L101, k101, n101⟩, -, X101, ⟨Lc101, hQ101, l101, y101, z101⟩, st101⟩ := Jvm.LawKit.callS X0 hx (y := y_8) hown (mvT hZ (w_ hw 100 rfl)) (mvT hZ (w_ hw 101 rfl)) (mvT hZ (w_ hw 64 rfl)) (mvT hZ (w_ hw 102 rfl)) (by decide) (backOf (W := 0) (rm_nblg l Z a0 hw [] n h0 n0 Z0 l5) hZ (w_ hw 102 rfl) (w_ hw 64 rfl) (by decide) (by decide)) (g := (mkF m 1 #[.val (.int (Int32.ofNat n))] [(.int (Int32.ofNat n))])) rfl (by rw [hml]; rfl) (argsL := [(.int (Int32.ofNat n))]) (rest := []) (lenOf pd_132 rfl) rfl (by show 2 * 0 + _ ≤ _; exact Nat.le_of_eq rfl) (hb hby d_jdk_52_method_2_1) (fun _ _ => ⟨rfl, e0, (by decide : 0 + 0 ≤ _), (by decide : 0 + 0 ≤ _)⟩)
  dsimp only [Pt.U, Pt.locs, Pt.cells, Pt.slots] at X101 l101 y101 z101 st101 hQ101
  subst l101 y101 z101
  obtain ⟨rfl, Nq101, e101_⟩ := hQ101
  have N101_ := Fr.app N0 Nq101
  refine Fin.by (fun tt_ kk_ => st101 tt_ kk_) ?_
  have e101 := e101_
  obtain ⟨T102, h102, k102, X102, e102, E102, A102, st102⟩ := newP X101 hx hZ (w_ hw 21 rfl) e101 (g := (mkF m 4 #[.val (.int (Int32.ofNat n))] [(.int (Int32.ofNat (2 * n)))])) rfl (hb hby d_jdk_52_method_2_4) rfl (own_notlt (by omega)) (cap := 10) (by rw [own_cl (by omega)]; omega) (by decide) (by decide) (by decide)
  obtain ⟨a102, g102⟩ : ∃ z, z = h0.size := ⟨_, rfl⟩
  rw [← g102] at A102 st102
  refine Fin.by (fun tt_ kk_ => st102 tt_ kk_) ?_
  have V102 : Arv Z h102 a102 k102 .byte (Int32.ofNat (2 * n)) [] (.int (0 : Int32)) := Arv.new A102 (own_notlt (by omega))
  have kp103 : Keep h0 h102 [] := (Keep.refl h0 []).ext E102
  show Fin _ _ _ _ _ _ _ (T102.setTop (mkF m 6 #[.val (.int (Int32.ofNat n))] [(.ref a102)]))
  exact Fin.ret (v := some (.ref a102)) X102 (fun h => by rw [Bd.returns] at h; cases h) Bd.notSynchronized (by rw [e102]; exact ⟨a102, k102, rfl, N101_, kp103, (Nat.le_trans (Nat.le_refl _) (Nat.le_of_eq g102.symm)), V102⟩) (by decide) (by decide) (fun fs hr => retA X102 hx Bd.returns rfl rfl (hb hby d_jdk_52_method_2_6) hr)
theorem d_jdk_52_method_4_0 : decode jdk_52_method_4_code 0 = .ok (.getstatic 44, 3) := by decide +kernel
theorem d_jdk_52_method_4_3 : decode jdk_52_method_4_code 3 = .ok (.ifCond .ne 25, 3) := by decide +kernel
theorem d_jdk_52_method_4_28 : decode jdk_52_method_4_code 28 = .ok (.iload_n 1, 1) := by decide +kernel
theorem d_jdk_52_method_4_29 : decode jdk_52_method_4_code 29 = .ok (.iconst 1, 1) := by decide +kernel
theorem d_jdk_52_method_4_30 : decode jdk_52_method_4_code 30 = .ok (.ishl, 1) := by decide +kernel
theorem d_jdk_52_method_4_31 : decode jdk_52_method_4_code 31 = .ok (.istore_n 1, 1) := by decide +kernel
theorem d_jdk_52_method_4_32 : decode jdk_52_method_4_code 32 = .ok (.aload_n 0, 1) := by decide +kernel
theorem d_jdk_52_method_4_33 : decode jdk_52_method_4_code 33 = .ok (.iload_n 1, 1) := by decide +kernel
theorem d_jdk_52_method_4_34 : decode jdk_52_method_4_code 34 = .ok (.iinc 1 1, 3) := by decide +kernel
theorem d_jdk_52_method_4_37 : decode jdk_52_method_4_code 37 = .ok (.iload_n 2, 1) := by decide +kernel
theorem d_jdk_52_method_4_38 : decode jdk_52_method_4_code 38 = .ok (.getstatic 59, 3) := by decide +kernel
theorem d_jdk_52_method_4_41 : decode jdk_52_method_4_code 41 = .ok (.ishr, 1) := by decide +kernel
theorem d_jdk_52_method_4_42 : decode jdk_52_method_4_code 42 = .ok (.i2b, 1) := by decide +kernel
theorem d_jdk_52_method_4_43 : decode jdk_52_method_4_code 43 = .ok (.bastore, 1) := by decide +kernel
theorem d_jdk_52_method_4_44 : decode jdk_52_method_4_code 44 = .ok (.aload_n 0, 1) := by decide +kernel
theorem d_jdk_52_method_4_45 : decode jdk_52_method_4_code 45 = .ok (.iload_n 1, 1) := by decide +kernel
theorem d_jdk_52_method_4_46 : decode jdk_52_method_4_code 46 = .ok (.iload_n 2, 1) := by decide +kernel
theorem d_jdk_52_method_4_47 : decode jdk_52_method_4_code 47 = .ok (.getstatic 63, 3) := by decide +kernel
theorem d_jdk_52_method_4_50 : decode jdk_52_method_4_code 50 = .ok (.ishr, 1) := by decide +kernel
theorem d_jdk_52_method_4_51 : decode jdk_52_method_4_code 51 = .ok (.i2b, 1) := by decide +kernel
theorem d_jdk_52_method_4_52 : decode jdk_52_method_4_code 52 = .ok (.bastore, 1) := by decide +kernel
theorem d_jdk_52_method_4_53 : decode jdk_52_method_4_code 53 = .ok (.return_, 1) := by decide +kernel
def Q_putg (Z : State) (d : Addr) (kd : ClassId) (N2 : Int32) (vs : List Value) (i : Nat) (j : Int32) (z : Int32) (h0 : Heap) (n0 : Nat) (vv_ : Option Value) (hh_ : Heap) (LL_ : List Loc) : Prop := vv_ = none ∧ Fr n0 LL_ ∧ Keep h0 hh_ [d] ∧ Arv Z hh_ d kd .byte N2 (vs ++ [(.int (((z >>> ((0 : Int32) &&& 31)).toInt8.toInt32).toInt8.toInt32))] ++ [(.int (((z >>> ((8 : Int32) &&& 31)).toInt8.toInt32).toInt8.toInt32))]) (.int (0 : Int32))
set_option maxRecDepth 65536 in
set_option maxHeartbeats 40000000 in
theorem rm_putg (l : Launch) (Z : State) (a0 : Array Value) (hw : ∀ d ∈ tables_1, d.before a0 Z = true) (ws : List Jvm.Cond) (d : Addr) (kd : ClassId) (N2 : Int32) (vs : List Value) (i : Nat) (j : Int32) (z : Int32) (h0 : Heap) (n0 : Nat) (Z0 : n0 ≤ h0.size) (hj : j = Int32.ofNat i) (hvl : vs.length = 2 * i) (hi : 2 * i + 1 < N2.toNatClampNeg) (hb2 : N2.toNatClampNeg < 2 ^ 29) (A0 : Arv Z h0 d kd .byte N2 vs (.int (0 : Int32))) (gd : n0 ≤ d) (S6 : Sta Z Z.heap "java/lang/StringUTF16" "$assertionsDisabled" "Z" (.int (1 : Int32))) (S7 : Sta Z Z.heap "java/lang/StringUTF16" "HI_BYTE_SHIFT" "I" (.int (0 : Int32))) (S8 : Sta Z Z.heap "java/lang/StringUTF16" "LO_BYTE_SHIFT" "I" (.int (8 : Int32))) (OL : Old Z n0 h0) :
    MetFree l (⟨"java/lang/StringUTF16", "putChar", "([BII)V"⟩ : MethodName) (head1 (Jvm.Cond.code (⟨"java/lang/StringUTF16", "putChar", "([BII)V"⟩ : MethodName) jdk_52_method_4_code 3 none :: ws) ({ frames := 0, cells := 0, slots := 0, locals := 0 } : Room)) (fun aa_ U => aa_ = #[(.ref d), (.int j), (.int z)] ∧ Z.Warmed39 U.vm ∧ U.heap = h0) (fun _ _ _ _ _ => True) (fun _ U o U' => ∃ vv_ LL_, o = .returned vv_ ∧ Q_putg Z d kd N2 vs i j z h0 n0 vv_ U'.heap LL_ ∧ FrameEnd U o U' LL_ 0 0) := by
  refine MetFree.of_bodySF (plainFor_of_name pn_java_lang_StringUTF16) hisR ?_
  intro p e s m args below meth c s₁ Bd hml0 hP hK
  obtain ⟨rfl, hZ, hh⟩ := hP
  have hx := Bd.exec
  have hby := Bd.bytes
  have hml : c.maxLocals = 3 := hml0
  have hown : s.vm.findClass "java/lang/StringUTF16" = some m.cls := findClass_of_methodNamed Bd.named
  have hnm := (name_of_methodNamed Bd.named Bd.method).1
  have X0 : Stand p l e ({ frames := 0, cells := 0, slots := 0, locals := 0 } : Room) s m #[(.ref d), (.int j), (.int z)] below meth c s₁ [] 0 0 := Stand.of_body Bd
  have e0 : s₁.heap = h0 := by rw [← hh, Bd.state]; rfl
  have N0 := Fr.nil n0
  have ef : entryFrame m #[(.ref d), (.int j), (.int z)] 3 = mkF m 0 #[.val (.ref d), .val (.int j), .val (.int z)] [] := by first | (simp [entryFrame, mkF, argsToLocals, Value.category]; done) | rfl
  refine Fin.start (Q := Q_putg Z d kd N2 vs i j z h0 n0) ef ?_
  obtain ⟨T101, X101, e101, st101⟩ := getS X0 hx hZ (host := "") hown (w_ hw 107 rfl) Via.refl e0 (S6.ext OL.2) (g := (mkF m 0 #[.val (.ref d), .val (.int j), .val (.int z)] [])) rfl (hb hby d_jdk_52_method_4_0)
  refine Fin.by (fun tt_ kk_ => st101 tt_ kk_) ?_
  show Fin _ _ _ _ _ _ _ (T101.setTop (mkF m 3 #[.val (.ref d), .val (.int j), .val (.int z)] [(.int 1)]))
  refine Fin.by (fun tt_ kk_ => XS.ifYes X101.here hx rfl (pc0 := 3) (pc' := 28) rfl (hb hby d_jdk_52_method_4_3) rfl ((if0 _ _).trans (feq (by decide : ¬ (1 : Int32) = (0 : Int32))).2) (by decide) (by decide) kk_) ?_
  refine Fin.by (fun tt_ kk_ => XS.iloadN X101.here hx rfl (hb hby d_jdk_52_method_4_28) rfl (XS.iconst X101.here hx rfl (hb hby d_jdk_52_method_4_29) (XS.ishl X101.here hx rfl (hb hby d_jdk_52_method_4_30) rfl (XS.istoreN X101.here hx rfl (hb hby d_jdk_52_method_4_31) rfl (l' := #[.val (.ref d), .val (.int (j <<< (1 &&& 31))), .val (.int z)]) rfl (XS.aloadN X101.here hx rfl (hb hby d_jdk_52_method_4_32) rfl rfl (XS.iloadN X101.here hx rfl (hb hby d_jdk_52_method_4_33) rfl (XS.iinc X101.here hx rfl (hb hby d_jdk_52_method_4_34) rfl (l' := #[.val (.ref d), .val (.int ((j <<< (1 &&& 31)) + 1)), .val (.int z)]) rfl (XS.iloadN X101.here hx rfl (hb hby d_jdk_52_method_4_37) rfl kk_)))))))) ?_
  obtain ⟨T102, X102, e102, st102⟩ := getS X101 hx hZ (host := "") hown (w_ hw 108 rfl) Via.refl e101 (S7.ext OL.2) (g := (mkF m 38 #[.val (.ref d), .val (.int ((j <<< (1 &&& 31)) + 1)), .val (.int z)] [(.int z), (.int (j <<< (1 &&& 31))), (.ref d)])) rfl (hb hby d_jdk_52_method_4_38)
  refine Fin.by (fun tt_ kk_ => st102 tt_ kk_) ?_
  refine Fin.by (fun tt_ kk_ => XS.ishr X102.here hx rfl (hb hby d_jdk_52_method_4_41) rfl (XS.i2b X102.here hx rfl (hb hby d_jdk_52_method_4_42) rfl kk_)) ?_
  have q1 : (j <<< ((1 : Int32) &&& 31)) = Int32.ofNat (2 * i) := by rw [hj]; exact own_shl1 (by omega)
  have q2 := own_ext q1
  obtain ⟨cl103, Ar103, q103, S103, N103, H103, G103⟩ := id A0
  have hin103 : ¬ ((j <<< ((1 : Int32) &&& 31)) < 0 ∨ cl103.slots.size ≤ (j <<< ((1 : Int32) &&& 31)).toNatClampNeg) := within q1 (by rw [S103]; omega) (by rw [S103]; omega)
  obtain ⟨T103, h103, X103, e103, W103, st103⟩ := stB X102 hx hZ e102 Ar103 (j := (j <<< ((1 : Int32) &&& 31))) hin103 (g := (mkF m 43 #[.val (.ref d), .val (.int ((j <<< (1 &&& 31)) + 1)), .val (.int z)] [(.int ((z >>> (0 &&& 31)).toInt8.toInt32)), (.int (j <<< (1 &&& 31))), (.ref d)])) rfl rfl (hb hby d_jdk_52_method_4_43)
  have V103 : Arv Z h103 d kd .byte N2 (vs ++ [(.int (((z >>> ((0 : Int32) &&& 31)).toInt8.toInt32).toInt8.toInt32))]) (.int (0 : Int32)) := own_push Ar103 q103 S103 N103 H103 G103 (fits_nar_byte _) W103 (by rw [clamp_of q1 (by omega), hvl])
  refine Fin.by (fun tt_ kk_ => st103 tt_ kk_) ?_
  have N103_ := Fr.snoc X103 N0 gd
  refine Fin.by (fun tt_ kk_ => XS.aloadN X103.here hx rfl (hb hby d_jdk_52_method_4_44) rfl rfl (XS.iloadN X103.here hx rfl (hb hby d_jdk_52_method_4_45) rfl (XS.iloadN X103.here hx rfl (hb hby d_jdk_52_method_4_46) rfl kk_))) ?_
  have O104 : Old Z n0 h103 := (OL.wr W103 gd)
  obtain ⟨T105, X105, e105, st105⟩ := getS X103 hx hZ (host := "") hown (w_ hw 109 rfl) Via.refl e103 (S8.ext O104.2) (g := (mkF m 47 #[.val (.ref d), .val (.int ((j <<< (1 &&& 31)) + 1)), .val (.int z)] [(.int z), (.int ((j <<< (1 &&& 31)) + 1)), (.ref d)])) rfl (hb hby d_jdk_52_method_4_47)
  refine Fin.by (fun tt_ kk_ => st105 tt_ kk_) ?_
  refine Fin.by (fun tt_ kk_ => XS.ishr X105.here hx rfl (hb hby d_jdk_52_method_4_50) rfl (XS.i2b X105.here hx rfl (hb hby d_jdk_52_method_4_51) rfl kk_)) ?_
  obtain ⟨cl106, Ar106, q106, S106, N106, H106, G106⟩ := id V103
  have hin106 : ¬ (((j <<< ((1 : Int32) &&& 31)) + (1 : Int32)) < 0 ∨ cl106.slots.size ≤ ((j <<< ((1 : Int32) &&& 31)) + (1 : Int32)).toNatClampNeg) := within q2 (by rw [S106]; omega) (by rw [S106]; omega)
  obtain ⟨T106, h106, X106, e106, W106, st106⟩ := stB X105 hx hZ e105 Ar106 (j := ((j <<< ((1 : Int32) &&& 31)) + (1 : Int32))) hin106 (g := (mkF m 52 #[.val (.ref d), .val (.int ((j <<< (1 &&& 31)) + 1)), .val (.int z)] [(.int ((z >>> (8 &&& 31)).toInt8.toInt32)), (.int ((j <<< (1 &&& 31)) + 1)), (.ref d)])) rfl rfl (hb hby d_jdk_52_method_4_52)
  have V106 : Arv Z h106 d kd .byte N2 ((vs ++ [(.int (((z >>> ((0 : Int32) &&& 31)).toInt8.toInt32).toInt8.toInt32))]) ++ [(.int (((z >>> ((8 : Int32) &&& 31)).toInt8.toInt32).toInt8.toInt32))]) (.int (0 : Int32)) := own_push Ar106 q106 S106 N106 H106 G106 (fits_nar_byte _) W106 (by rw [clamp_of q2 (by omega), List.length_append, hvl]; rfl)
  refine Fin.by (fun tt_ kk_ => st106 tt_ kk_) ?_
  have N106_ := Fr.snoc X106 N103_ gd
  have kp107 : Keep h0 h103 [d] := (Keep.refl h0 [d]).wr W103 (Or.inl (List.mem_of_getElem? (i := 0) rfl))
  have kp108 : Keep h0 h106 [d] := kp107.wr W106 (Or.inl (List.mem_of_getElem? (i := 0) rfl))
  show Fin _ _ _ _ _ _ _ (T106.setTop (mkF m 53 #[.val (.ref d), .val (.int ((j <<< (1 &&& 31)) + 1)), .val (.int z)] []))
  exact Fin.ret (v := none) X106 (fun _ => rfl) Bd.notSynchronized (by rw [e106]; exact ⟨rfl, N106_, kp108, V106⟩) (by decide) (by decide) (fun fs hr => X106.returnOut hx Bd.returns (hb hby d_jdk_52_method_4_53) hr)
abbrev y_9 : MethodName := (⟨"java/lang/StringUTF16", "newBytesFor", "(I)[B"⟩ : MethodName)
abbrev y_10 : MethodName := (⟨"java/lang/StringUTF16", "putChar", "([BII)V"⟩ : MethodName)
theorem d_jdk_52_method_14_0 : decode jdk_52_method_14_code 0 = .ok (.iload_n 2, 1) := by decide +kernel
theorem pd_159 : parseMethodDescriptor "(I)[B" = some ⟨[.int], some (.array .byte)⟩ := by decide +kernel
theorem d_jdk_52_method_14_1 : decode jdk_52_method_14_code 1 = .ok (.invokestatic 107, 3) := by decide +kernel
theorem d_jdk_52_method_14_4 : decode jdk_52_method_14_code 4 = .ok (.astore_n 3, 1) := by decide +kernel
theorem d_jdk_52_method_14_5 : decode jdk_52_method_14_code 5 = .ok (.iconst 0, 1) := by decide +kernel
theorem d_jdk_52_method_14_6 : decode jdk_52_method_14_code 6 = .ok (.istore 4, 2) := by decide +kernel
theorem d_jdk_52_method_14_8 : decode jdk_52_method_14_code 8 = .ok (.iload 4, 2) := by decide +kernel
theorem d_jdk_52_method_14_10 : decode jdk_52_method_14_code 10 = .ok (.iload_n 2, 1) := by decide +kernel
theorem d_jdk_52_method_14_11 : decode jdk_52_method_14_code 11 = .ok (.if_icmp .ge 21, 3) := by decide +kernel
theorem d_jdk_52_method_14_32 : decode jdk_52_method_14_code 32 = .ok (.aload_n 3, 1) := by decide +kernel
theorem d_jdk_52_method_14_33 : decode jdk_52_method_14_code 33 = .ok (.areturn, 1) := by decide +kernel
theorem d_jdk_52_method_14_14 : decode jdk_52_method_14_code 14 = .ok (.aload_n 3, 1) := by decide +kernel
theorem d_jdk_52_method_14_15 : decode jdk_52_method_14_code 15 = .ok (.iload 4, 2) := by decide +kernel
theorem d_jdk_52_method_14_17 : decode jdk_52_method_14_code 17 = .ok (.aload_n 0, 1) := by decide +kernel
theorem d_jdk_52_method_14_18 : decode jdk_52_method_14_code 18 = .ok (.iload_n 1, 1) := by decide +kernel
theorem d_jdk_52_method_14_19 : decode jdk_52_method_14_code 19 = .ok (.caload, 1) := by decide +kernel
theorem pd_174 : parseMethodDescriptor "([BII)V" = some ⟨[(.array .byte), .int, .int], none⟩ := by decide +kernel
theorem d_jdk_52_method_14_20 : decode jdk_52_method_14_code 20 = .ok (.invokestatic 111, 3) := by decide +kernel
theorem d_jdk_52_method_14_23 : decode jdk_52_method_14_code 23 = .ok (.iinc 1 1, 3) := by decide +kernel
theorem d_jdk_52_method_14_26 : decode jdk_52_method_14_code 26 = .ok (.iinc 4 1, 3) := by decide +kernel
theorem d_jdk_52_method_14_29 : decode jdk_52_method_14_code 29 = .ok (.goto (-21), 3) := by decide +kernel
def Q_tobg (Z : State) (b : Addr) (kb : ClassId) (cs : List Int32) (h0 : Heap) (n0 : Nat) (vv_ : Option Value) (hh_ : Heap) (LL_ : List Loc) : Prop := ∃ (t : Addr), ∃ (k : ClassId), vv_ = some (.ref t) ∧ Fr n0 LL_ ∧ Keep h0 hh_ [] ∧ h0.size ≤ t ∧ Arv Z hh_ t k .byte (Int32.ofNat (2 * cs.length)) (StrChars.Road.wideBytes cs) (.int (0 : Int32))
set_option maxRecDepth 65536 in
set_option maxHeartbeats 40000000 in
theorem rm_tobg (l : Launch) (Z : State) (a0 : Array Value) (hw : ∀ d ∈ tables_1, d.before a0 Z = true) (ws : List Jvm.Cond) (b : Addr) (kb : ClassId) (cs : List Int32) (h0 : Heap) (n0 : Nat) (Z0 : n0 ≤ h0.size) (Ab : Arv Z h0 b kb .char (Int32.ofNat cs.length) (cs.map Value.int) (.int (0 : Int32))) (l5 : cs.length ≤ 5) (S6 : Sta Z Z.heap "java/lang/StringUTF16" "$assertionsDisabled" "Z" (.int (1 : Int32))) (S7 : Sta Z Z.heap "java/lang/StringUTF16" "HI_BYTE_SHIFT" "I" (.int (0 : Int32))) (S8 : Sta Z Z.heap "java/lang/StringUTF16" "LO_BYTE_SHIFT" "I" (.int (8 : Int32))) (OL : Old Z n0 h0) :
    MetFree l (⟨"java/lang/StringUTF16", "toBytes", "([CII)[B"⟩ : MethodName) (head1 (Jvm.Cond.code (⟨"java/lang/StringUTF16", "toBytes", "([CII)[B"⟩ : MethodName) jdk_52_method_14_code 5 (some (.array .byte)) :: ws) ({ frames := 2, cells := 1, slots := 10, locals := 24 } : Room)) (fun aa_ U => aa_ = #[(.ref b), (.int (0 : Int32)), (.int (Int32.ofNat cs.length))] ∧ Z.Warmed39 U.vm ∧ U.heap = h0) (fun _ _ _ _ _ => True) (fun _ U o U' => ∃ vv_ LL_, o = .returned vv_ ∧ Q_tobg Z b kb cs h0 n0 vv_ U'.heap LL_ ∧ FrameEnd U o U' LL_ 1 10) := by
  refine MetFree.of_bodySF (plainFor_of_name pn_java_lang_StringUTF16) hisR ?_
  intro p e s m args below meth c s₁ Bd hml0 hP hK
  obtain ⟨rfl, hZ, hh⟩ := hP
  have hx := Bd.exec
  have hby := Bd.bytes
  have hml : c.maxLocals = 5 := hml0
  have hown : s.vm.findClass "java/lang/StringUTF16" = some m.cls := findClass_of_methodNamed Bd.named
  have hnm := (name_of_methodNamed Bd.named Bd.method).1
  have X0 : Stand p l e ({ frames := 2, cells := 1, slots := 10, locals := 24 } : Room) s m #[(.ref b), (.int (0 : Int32)), (.int (Int32.ofNat cs.length))] below meth c s₁ [] 0 0 := Stand.of_body Bd
  have e0 : s₁.heap = h0 := by rw [← hh, Bd.state]; rfl
  have N0 := Fr.nil n0
  have ef : entryFrame m #[(.ref b), (.int (0 : Int32)), (.int (Int32.ofNat cs.length))] 5 = mkF m 0 #[.val (.ref b), .val (.int (0 : Int32)), .val (.int (Int32.ofNat cs.length)), .unset, .unset] [] := by first | (simp [entryFrame, mkF, argsToLocals, Value.category]; done) | rfl
  refine Fin.start (Q := Q_tobg Z b kb cs h0 n0) ef ?_
  refine Fin.by (fun tt_ kk_ => XS.iloadN X0.here hx rfl (hb hby d_jdk_52_method_14_0) rfl kk_) ?_
  obtain ⟨v101, _, ⟨T101, L101, k101, n101⟩, -, X101, ⟨Lc101, hQ101, l101, y101, z101⟩, st101⟩ := Jvm.LawKit.callS X0 hx (y := y_9) hown (mvT hZ (w_ hw 97 rfl)) (mvT hZ (w_ hw 98 rfl)) (mvT hZ (w_ hw 64 rfl)) (mvT hZ (w_ hw 99 rfl)) (by decide) (backOf (W := 0) (rm_nbfg l Z a0 hw [] cs.length h0 n0 Z0 l5) hZ (w_ hw 99 rfl) (w_ hw 64 rfl) (by decide) (by decide)) (g := (mkF m 1 #[.val (.ref b), .val (.int 0), .val (.int (Int32.ofNat cs.length)), .unset, .unset] [(.int (Int32.ofNat cs.length))])) rfl (by rw [hml]; rfl) (argsL := [(.int (Int32.ofNat cs.length))]) (rest := []) (lenOf pd_159 rfl) rfl (by show 2 * 0 + _ ≤ _; exact Nat.le_of_eq rfl) (hb hby d_jdk_52_method_14_1) (fun _ _ => ⟨rfl, e0, (by decide : 0 + 1 ≤ _), (by decide : 0 + 10 ≤ _)⟩)
  dsimp only [Pt.U, Pt.locs, Pt.cells, Pt.slots] at X101 l101 y101 z101 st101 hQ101
  subst l101 y101 z101
  obtain ⟨t102, k103, rfl, Nq101, p101_0, p101_1, p101_2⟩ := hQ101
  have N101_ := Fr.app N0 Nq101
  refine Fin.by (fun tt_ kk_ => st101 tt_ kk_) ?_
  refine Fin.by (fun tt_ kk_ => XS.astoreN X101.here hx rfl (hb hby d_jdk_52_method_14_4) rfl rfl (l' := #[.val (.ref b), .val (.int 0), .val (.int (Int32.ofNat cs.length)), .val (.ref t102), .unset]) rfl (XS.iconst X101.here hx rfl (hb hby d_jdk_52_method_14_5) (XS.istore X101.here hx rfl (hb hby d_jdk_52_method_14_6) rfl (l' := #[.val (.ref b), .val (.int 0), .val (.int (Int32.ofNat cs.length)), .val (.ref t102), .val (.int 0)]) rfl kk_))) ?_
  have J8 : ∀ fu : Nat, ∀ (T104 : State) (h105 : Heap) (lc106 : List Loc) (i : Nat) (j : Int32), Stand p l e ({ frames := 2, cells := 1, slots := 10, locals := 24 } : Room) s m #[(.ref b), (.int (0 : Int32)), (.int (Int32.ofNat cs.length))] below meth c T104 lc106 1 10 → T104.heap = h105 → Fr n0 lc106 → Keep T101.heap h105 [t102] → (fu = cs.length - i) → (j = Int32.ofNat i) → (i ≤ cs.length) → (Arv Z h105 t102 k103 .byte (Int32.ofNat (2 * cs.length)) (StrChars.Road.wideBytes (cs.take i)) (.int (0 : Int32))) → Fin p e below s (Q_tobg Z b kb cs h0 n0) 1 10 (T104.setTop (mkF m 8 #[.val (.ref b), .val (.int j), .val (.int (Int32.ofNat cs.length)), .val (.ref t102), .val (.int j)] [])) := by
    intro fu
    induction fu using Nat.strongRecOn with
    | ind fu ih =>
      intro T104 h105 lc106 i j X107 e108 N109 K110 hf hj hil jA
      refine Fin.by (fun tt_ kk_ => XS.iload X107.here hx rfl (hb hby d_jdk_52_method_14_8) rfl (XS.iloadN X107.here hx rfl (hb hby d_jdk_52_method_14_10) rfl kk_)) ?_
      show Fin _ _ _ _ _ _ _ (T104.setTop (mkF m 11 #[.val (.ref b), .val (.int j), .val (.int (Int32.ofNat cs.length)), .val (.ref t102), .val (.int j)] [(.int (Int32.ofNat cs.length)), (.int j)]))
      by_cases hlt : j < (Int32.ofNat cs.length)
      · refine Fin.by (fun tt_ kk_ => XS.icmpNo X107.here hx rfl (hb hby d_jdk_52_method_14_11) rfl (tlt hlt).2.1 kk_) ?_
        have hi := own_ltof hj hlt hil (by omega)
        refine Fin.by (fun tt_ kk_ => XS.aloadN X107.here hx rfl (hb hby d_jdk_52_method_14_14) rfl rfl (XS.iload X107.here hx rfl (hb hby d_jdk_52_method_14_15) rfl (XS.aloadN X107.here hx rfl (hb hby d_jdk_52_method_14_17) rfl rfl (XS.iloadN X107.here hx rfl (hb hby d_jdk_52_method_14_18) rfl kk_)))) ?_
        have ne114 : b ≠ t102 := Nat.ne_of_lt (Nat.lt_of_lt_of_le Ab.lt p101_1)
        have A115 : Arv Z h105 b kb .char (Int32.ofNat cs.length) (cs.map Value.int) (.int (0 : Int32)) := ((Ab.keep p101_0 nin0).keep K110 (ninS ne114 nin0))
        obtain ⟨cl116, Ar116, q116, S116, N116, H116, G116⟩ := id A115
        have hin116 : ¬ (j < 0 ∨ cl116.slots.size ≤ j.toNatClampNeg) := within hj (by rw [S116, own_cl (by omega)]; exact hi) (by rw [S116, own_cl (by omega)]; omega)
        refine Fin.by (fun tt_ kk_ => X107.caload hx (j := j) (v := (.int (cs.getD i 0))) (by rw [e108]; exact Ar116.1) (State.isArrayOf_alike hZ.alike Ar116.2.1) Ar116.2.2 hin116 (Has.at H116 hin116 (by rw [clamp_of hj (by omega)]; exact own_mapget hi)) (g := (mkF m 19 #[.val (.ref b), .val (.int j), .val (.int (Int32.ofNat cs.length)), .val (.ref t102), .val (.int j)] [(.int j), (.ref b), (.int j), (.ref t102)])) rfl rfl (hb hby d_jdk_52_method_14_19) _ kk_) ?_
        have g117 : n0 ≤ t102 := Nat.le_trans Z0 p101_1
        have O118 : Old Z n0 h105 := ((OL.keep p101_0 all0).keep K110 (allS g117 all0))
        have z119 : n0 ≤ h105.size := Nat.le_trans Z0 (Nat.le_trans p101_0.1 K110.1)
        obtain ⟨v120, _, ⟨T120, L120, k120, n120⟩, -, X120, ⟨Lc120, hQ120, l120, y120, z120⟩, st120⟩ := Jvm.LawKit.callS X107 hx (y := y_10) hown (mvT hZ (w_ hw 104 rfl)) (mvT hZ (w_ hw 105 rfl)) (mvT hZ (w_ hw 64 rfl)) (mvT hZ (w_ hw 106 rfl)) (by decide) (backOf (W := 0) (rm_putg l Z a0 hw [] t102 k103 (Int32.ofNat (2 * cs.length)) ((StrChars.Road.wideBytes (cs.take i)) : List Value) i j (cs.getD i 0) h105 n0 z119 hj (own_wtlen hil) (by rw [own_cl (by omega)]; omega) (by rw [own_cl (by omega)]; omega) jA g117 S6 S7 S8 O118) hZ (w_ hw 106 rfl) (w_ hw 64 rfl) (by decide) (by decide)) (g := (mkF m 20 #[.val (.ref b), .val (.int j), .val (.int (Int32.ofNat cs.length)), .val (.ref t102), .val (.int j)] [(.int (cs.getD i 0)), (.int j), (.ref t102)])) rfl (by rw [hml]; rfl) (argsL := [(.ref t102), (.int j), (.int (cs.getD i 0))]) (rest := []) (lenOf pd_174 rfl) rfl (by show 2 * 0 + _ ≤ _; exact Nat.le_of_eq rfl) (hb hby d_jdk_52_method_14_20) (fun _ _ => ⟨rfl, e108, (by decide : 1 + 0 ≤ _), (by decide : 10 + 0 ≤ _)⟩)
        dsimp only [Pt.U, Pt.locs, Pt.cells, Pt.slots] at X120 l120 y120 z120 st120 hQ120
        subst l120 y120 z120
        obtain ⟨rfl, Nq120, p120_0, p120_1⟩ := hQ120
        have N120_ := Fr.app N109 Nq120
        refine Fin.by (fun tt_ kk_ => st120 tt_ kk_) ?_
        have V121 : Arv Z T120.heap t102 k103 .byte (Int32.ofNat (2 * cs.length)) (StrChars.Road.wideBytes (cs.take (i + 1))) (.int (0 : Int32)) := by have q := p120_1; rw [own_raw_lo, own_raw_hi, own_wtk hi] at q; exact q
        refine Fin.by (fun tt_ kk_ => XS.iinc X120.here hx rfl (hb hby d_jdk_52_method_14_23) rfl (l' := #[.val (.ref b), .val (.int (j + 1)), .val (.int (Int32.ofNat cs.length)), .val (.ref t102), .val (.int j)]) rfl (XS.iinc X120.here hx rfl (hb hby d_jdk_52_method_14_26) rfl (l' := #[.val (.ref b), .val (.int (j + 1)), .val (.int (Int32.ofNat cs.length)), .val (.ref t102), .val (.int (j + 1))]) rfl (XS.goto X120.here hx rfl (pc0 := 29) (pc' := 8) rfl (hb hby d_jdk_52_method_14_29) (by decide) (by decide) kk_))) ?_
        show Fin _ _ _ _ _ _ _ (T120.setTop (mkF m 8 #[.val (.ref b), .val (.int (j + 1)), .val (.int (Int32.ofNat cs.length)), .val (.ref t102), .val (.int (j + 1))] []))
        have kp122 : Keep T101.heap h105 [t102] := (Keep.refl T101.heap [t102]).trans K110 (allS (Or.inl (List.mem_of_getElem? (i := 0) rfl)) all0)
        have kp123 : Keep T101.heap T120.heap [t102] := kp122.trans p120_0 (allS (Or.inl (List.mem_of_getElem? (i := 0) rfl)) all0)
        exact ih (cs.length - (i + 1)) (by omega) T120 T120.heap _ (i + 1) (j + (1 : Int32)) X120 rfl N120_ kp123 rfl (own_ext hj) hi V121
      · refine Fin.by (fun tt_ kk_ => XS.icmpYes X107.here hx rfl (pc0 := 11) (pc' := 32) rfl (hb hby d_jdk_52_method_14_11) rfl (flt hlt).2.1 (by decide) (by decide) kk_) ?_
        obtain rfl := own_geof hj hlt hil (by omega)
        refine Fin.by (fun tt_ kk_ => XS.aloadN X107.here hx rfl (hb hby d_jdk_52_method_14_32) rfl rfl kk_) ?_
        have V111 : Arv Z h105 t102 k103 .byte (Int32.ofNat (2 * cs.length)) (StrChars.Road.wideBytes cs) (.int (0 : Int32)) := by have q := jA; rw [List.take_length] at q; exact q
        have kp112 : Keep h0 T101.heap [] := (Keep.refl h0 []).trans p101_0 all0
        have kp113 : Keep h0 h105 [] := kp112.trans K110 (allS (Or.inr (Nat.le_trans (Nat.le_refl _) p101_1)) all0)
        show Fin _ _ _ _ _ _ _ (T104.setTop (mkF m 33 #[.val (.ref b), .val (.int j), .val (.int (Int32.ofNat cs.length)), .val (.ref t102), .val (.int j)] [(.ref t102)]))
        exact Fin.ret (v := some (.ref t102)) X107 (fun h => by rw [Bd.returns] at h; cases h) Bd.notSynchronized (by rw [e108]; exact ⟨t102, k103, rfl, N109, kp113, (Nat.le_trans (Nat.le_refl _) p101_1), V111⟩) (by decide) (by decide) (fun fs hr => retA X107 hx Bd.returns rfl rfl (hb hby d_jdk_52_method_14_33) hr)
  show Fin _ _ _ _ _ _ _ (T101.setTop (mkF m 8 #[.val (.ref b), .val (.int 0), .val (.int (Int32.ofNat cs.length)), .val (.ref t102), .val (.int 0)] []))
  exact J8 (cs.length - 0) T101 T101.heap _ 0 (0 : Int32) X101 rfl N101_ (Keep.refl T101.heap [t102]) rfl rfl (Nat.zero_le _) p101_2
abbrev y_11 : MethodName := (⟨"java/lang/StringUTF16", "compress", "([CI[BII)I"⟩ : MethodName)
abbrev y_12 : MethodName := (⟨"java/lang/StringUTF16", "toBytes", "([CII)[B"⟩ : MethodName)
theorem d_jdk_52_method_16_0 : decode jdk_52_method_16_code 0 = .ok (.iload_n 2, 1) := by decide +kernel
theorem d_jdk_52_method_16_1 : decode jdk_52_method_16_code 1 = .ok (.newarray .byte, 2) := by decide +kernel
theorem d_jdk_52_method_16_3 : decode jdk_52_method_16_code 3 = .ok (.astore_n 3, 1) := by decide +kernel
theorem d_jdk_52_method_16_4 : decode jdk_52_method_16_code 4 = .ok (.aload_n 0, 1) := by decide +kernel
theorem d_jdk_52_method_16_5 : decode jdk_52_method_16_code 5 = .ok (.iload_n 1, 1) := by decide +kernel
theorem d_jdk_52_method_16_6 : decode jdk_52_method_16_code 6 = .ok (.aload_n 3, 1) := by decide +kernel
theorem d_jdk_52_method_16_7 : decode jdk_52_method_16_code 7 = .ok (.iconst 0, 1) := by decide +kernel
theorem d_jdk_52_method_16_8 : decode jdk_52_method_16_code 8 = .ok (.iload_n 2, 1) := by decide +kernel
theorem pd_187 : parseMethodDescriptor "([CI[BII)I" = some ⟨[(.array .char), .int, (.array .byte), .int, .int], some .int⟩ := by decide +kernel
theorem d_jdk_52_method_16_9 : decode jdk_52_method_16_code 9 = .ok (.invokestatic 115, 3) := by decide +kernel
theorem d_jdk_52_method_16_12 : decode jdk_52_method_16_code 12 = .ok (.istore 4, 2) := by decide +kernel
theorem d_jdk_52_method_16_14 : decode jdk_52_method_16_code 14 = .ok (.iload 4, 2) := by decide +kernel
theorem d_jdk_52_method_16_16 : decode jdk_52_method_16_code 16 = .ok (.iload_n 2, 1) := by decide +kernel
theorem d_jdk_52_method_16_17 : decode jdk_52_method_16_code 17 = .ok (.if_icmp .eq 40, 3) := by decide +kernel
theorem d_jdk_52_method_16_57 : decode jdk_52_method_16_code 57 = .ok (.aload_n 3, 1) := by decide +kernel
theorem d_jdk_52_method_16_58 : decode jdk_52_method_16_code 58 = .ok (.areturn, 1) := by decide +kernel
theorem d_jdk_52_method_16_20 : decode jdk_52_method_16_code 20 = .ok (.aload_n 0, 1) := by decide +kernel
theorem d_jdk_52_method_16_21 : decode jdk_52_method_16_code 21 = .ok (.iload_n 1, 1) := by decide +kernel
theorem d_jdk_52_method_16_22 : decode jdk_52_method_16_code 22 = .ok (.iload_n 2, 1) := by decide +kernel
theorem pd_198 : parseMethodDescriptor "([CII)[B" = some ⟨[(.array .char), .int, .int], some (.array .byte)⟩ := by decide +kernel
theorem d_jdk_52_method_16_23 : decode jdk_52_method_16_code 23 = .ok (.invokestatic 119, 3) := by decide +kernel
theorem d_jdk_52_method_16_26 : decode jdk_52_method_16_code 26 = .ok (.astore 5, 2) := by decide +kernel
theorem d_jdk_52_method_16_28 : decode jdk_52_method_16_code 28 = .ok (.aload 5, 2) := by decide +kernel
theorem d_jdk_52_method_16_30 : decode jdk_52_method_16_code 30 = .ok (.iload 4, 2) := by decide +kernel
theorem d_jdk_52_method_16_32 : decode jdk_52_method_16_code 32 = .ok (.invokestatic 71, 3) := by decide +kernel
theorem d_jdk_52_method_16_35 : decode jdk_52_method_16_code 35 = .ok (.sipush 255, 3) := by decide +kernel
theorem d_jdk_52_method_16_38 : decode jdk_52_method_16_code 38 = .ok (.if_icmp .gt 16, 3) := by decide +kernel
theorem d_jdk_52_method_16_54 : decode jdk_52_method_16_code 54 = .ok (.aload 5, 2) := by decide +kernel
theorem d_jdk_52_method_16_56 : decode jdk_52_method_16_code 56 = .ok (.areturn, 1) := by decide +kernel
def Q_c3g (Z : State) (b : Addr) (kb : ClassId) (cs : List Int32) (h0 : Heap) (n0 : Nat) (vv_ : Option Value) (hh_ : Heap) (LL_ : List Loc) : Prop := ∃ (t : Addr), ∃ (k : ClassId), ∃ (cd : Int32), ∃ (N2 : Int32), ∃ (vs : List Value), vv_ = some (.ref t) ∧ Fr n0 LL_ ∧ Keep h0 hh_ [] ∧ h0.size ≤ t ∧ Arv Z hh_ t k .byte N2 vs (.int (0 : Int32)) ∧ (StrChars.Road.CodA cs cd N2 vs)
set_option maxRecDepth 65536 in
set_option maxHeartbeats 40000000 in
theorem rm_c3g (l : Launch) (Z : State) (a0 : Array Value) (hw : ∀ d ∈ tables_1, d.before a0 Z = true) (ws : List Jvm.Cond) (b : Addr) (kb : ClassId) (cs : List Int32) (h0 : Heap) (n0 : Nat) (Z0 : n0 ≤ h0.size) (Ab : Arv Z h0 b kb .char (Int32.ofNat cs.length) (cs.map Value.int) (.int (0 : Int32))) (l5 : cs.length ≤ 5) (hb3 : ∀ c ∈ cs, ¬ c < 0 ∧ ¬ (65535 : Int32) < c) (S6 : Sta Z Z.heap "java/lang/StringUTF16" "$assertionsDisabled" "Z" (.int (1 : Int32))) (S7 : Sta Z Z.heap "java/lang/StringUTF16" "HI_BYTE_SHIFT" "I" (.int (0 : Int32))) (S8 : Sta Z Z.heap "java/lang/StringUTF16" "LO_BYTE_SHIFT" "I" (.int (8 : Int32))) (OL : Old Z n0 h0) :
    MetFree l (⟨"java/lang/StringUTF16", "compress", "([CII)[B"⟩ : MethodName) (head1 (Jvm.Cond.code (⟨"java/lang/StringUTF16", "compress", "([CII)[B"⟩ : MethodName) jdk_52_method_16_code 6 (some (.array .byte)) :: ws) ({ frames := 3, cells := 2, slots := 15, locals := 40 } : Room)) (fun aa_ U => aa_ = #[(.ref b), (.int (0 : Int32)), (.int (Int32.ofNat cs.length))] ∧ Z.Warmed39 U.vm ∧ U.heap = h0) (fun _ _ _ _ _ => True) (fun _ U o U' => ∃ vv_ LL_, o = .returned vv_ ∧ Q_c3g Z b kb cs h0 n0 vv_ U'.heap LL_ ∧ FrameEnd U o U' LL_ 2 15) := by
  refine MetFree.of_bodySF (plainFor_of_name pn_java_lang_StringUTF16) hisR ?_
  intro p e s m args below meth c s₁ Bd hml0 hP hK
  obtain ⟨rfl, hZ, hh⟩ := hP
  have hx := Bd.exec
  have hby := Bd.bytes
  have hml : c.maxLocals = 6 := hml0
  have hown : s.vm.findClass "java/lang/StringUTF16" = some m.cls := findClass_of_methodNamed Bd.named
  have hnm := (name_of_methodNamed Bd.named Bd.method).1
  have X0 : Stand p l e ({ frames := 3, cells := 2, slots := 15, locals := 40 } : Room) s m #[(.ref b), (.int (0 : Int32)), (.int (Int32.ofNat cs.length))] below meth c s₁ [] 0 0 := Stand.of_body Bd
  have e0 : s₁.heap = h0 := by rw [← hh, Bd.state]; rfl
  have N0 := Fr.nil n0
  have ef : entryFrame m #[(.ref b), (.int (0 : Int32)), (.int (Int32.ofNat cs.length))] 6 = mkF m 0 #[.val (.ref b), .val (.int (0 : Int32)), .val (.int (Int32.ofNat cs.length)), .unset, .unset, .unset] [] := by first | (simp [entryFrame, mkF, argsToLocals, Value.category]; done) | rfl
  refine Fin.start (Q := Q_c3g Z b kb cs h0 n0) ef ?_
  refine Fin.by (fun tt_ kk_ => XS.iloadN X0.here hx rfl (hb hby d_jdk_52_method_16_0) rfl kk_) ?_
  obtain ⟨T101, h101, k101, X101, e101, E101, A101, st101⟩ := newP X0 hx hZ (w_ hw 21 rfl) e0 (g := (mkF m 1 #[.val (.ref b), .val (.int 0), .val (.int (Int32.ofNat cs.length)), .unset, .unset, .unset] [(.int (Int32.ofNat cs.length))])) rfl (hb hby d_jdk_52_method_16_1) rfl (own_notlt (by omega)) (cap := 5) (by rw [own_cl (by omega)]; omega) (by decide) (by decide) (by decide)
  obtain ⟨a101, g101⟩ : ∃ z, z = h0.size := ⟨_, rfl⟩
  rw [← g101] at A101 st101
  refine Fin.by (fun tt_ kk_ => st101 tt_ kk_) ?_
  have V101 : Arv Z h101 a101 k101 .byte (Int32.ofNat cs.length) [] (.int (0 : Int32)) := Arv.new A101 (own_notlt (by omega))
  refine Fin.by (fun tt_ kk_ => XS.astoreN X101.here hx rfl (hb hby d_jdk_52_method_16_3) rfl rfl (l' := #[.val (.ref b), .val (.int 0), .val (.int (Int32.ofNat cs.length)), .val (.ref a101), .unset, .unset]) rfl (XS.aloadN X101.here hx rfl (hb hby d_jdk_52_method_16_4) rfl rfl (XS.iloadN X101.here hx rfl (hb hby d_jdk_52_method_16_5) rfl (XS.aloadN X101.here hx rfl (hb hby d_jdk_52_method_16_6) rfl rfl (XS.iconst X101.here hx rfl (hb hby d_jdk_52_method_16_7) (XS.iloadN X101.here hx rfl (hb hby d_jdk_52_method_16_8) rfl kk_)))))) ?_
  have A102 : Arv Z h101 b kb .char (Int32.ofNat cs.length) (cs.map Value.int) (.int (0 : Int32)) := (Ab.ext E101)
  have g103 : n0 ≤ a101 := Nat.le_trans Z0 (Nat.le_of_eq g101.symm)
  have ne104 : b ≠ a101 := Nat.ne_of_lt (Nat.lt_of_lt_of_le Ab.lt (Nat.le_of_eq g101.symm))
  have z105 : n0 ≤ h101.size := Nat.le_trans Z0 E101.1
  obtain ⟨v106, _, ⟨T106, L106, k106, n106⟩, -, X106, ⟨Lc106, hQ106, l106, y106, z106⟩, st106⟩ := Jvm.LawKit.callS X101 hx (y := y_11) hown (mvT hZ (w_ hw 66 rfl)) (mvT hZ (w_ hw 67 rfl)) (mvT hZ (w_ hw 64 rfl)) (mvT hZ (w_ hw 68 rfl)) (by decide) (backOf (W := 0) (rm_c5g l Z a0 hw [] b kb a101 k101 cs h101 n0 z105 A102 V101 g103 ne104 l5) hZ (w_ hw 68 rfl) (w_ hw 64 rfl) (by decide) (by decide)) (g := (mkF m 9 #[.val (.ref b), .val (.int 0), .val (.int (Int32.ofNat cs.length)), .val (.ref a101), .unset, .unset] [(.int (Int32.ofNat cs.length)), (.int 0), (.ref a101), (.int 0), (.ref b)])) rfl (by rw [hml]; rfl) (argsL := [(.ref b), (.int 0), (.ref a101), (.int 0), (.int (Int32.ofNat cs.length))]) (rest := []) (lenOf pd_187 rfl) rfl (by show 2 * 0 + _ ≤ _; exact Nat.le_of_eq rfl) (hb hby d_jdk_52_method_16_9) (fun _ _ => ⟨rfl, e101, (by decide : 1 + 0 ≤ _), (by decide : 5 + 0 ≤ _)⟩)
  dsimp only [Pt.U, Pt.locs, Pt.cells, Pt.slots] at X106 l106 y106 z106 st106 hQ106
  subst l106 y106 z106
  obtain ⟨r107, vs108, rfl, Nq106, p106_0, p106_1, p106_2⟩ := hQ106
  have N106_ := Fr.app N0 Nq106
  refine Fin.by (fun tt_ kk_ => st106 tt_ kk_) ?_
  rcases p106_2 with ⟨hr, hvs, hal⟩ | ⟨i, hi, hr, hx8⟩
  · subst hr
    refine Fin.by (fun tt_ kk_ => XS.istore X106.here hx rfl (hb hby d_jdk_52_method_16_12) rfl (l' := #[.val (.ref b), .val (.int 0), .val (.int (Int32.ofNat cs.length)), .val (.ref a101), .val (.int (Int32.ofNat cs.length)), .unset]) rfl (XS.iload X106.here hx rfl (hb hby d_jdk_52_method_16_14) rfl (XS.iloadN X106.here hx rfl (hb hby d_jdk_52_method_16_16) rfl kk_))) ?_
    show Fin _ _ _ _ _ _ _ (T106.setTop (mkF m 17 #[.val (.ref b), .val (.int 0), .val (.int (Int32.ofNat cs.length)), .val (.ref a101), .val (.int (Int32.ofNat cs.length)), .unset] [(.int (Int32.ofNat cs.length)), (.int (Int32.ofNat cs.length))]))
    refine Fin.by (fun tt_ kk_ => XS.icmpYes X106.here hx rfl (pc0 := 17) (pc' := 57) rfl (hb hby d_jdk_52_method_16_17) rfl (teq (rfl : (Int32.ofNat cs.length) = (Int32.ofNat cs.length))).1 (by decide) (by decide) kk_) ?_
    refine Fin.by (fun tt_ kk_ => XS.aloadN X106.here hx rfl (hb hby d_jdk_52_method_16_57) rfl rfl kk_) ?_
    have kp109 : Keep h0 h101 [] := (Keep.refl h0 []).ext E101
    have kp110 : Keep h0 T106.heap [] := kp109.trans p106_0 (allS (Or.inr (Nat.le_trans (Nat.le_refl _) (Nat.le_of_eq g101.symm))) all0)
    show Fin _ _ _ _ _ _ _ (T106.setTop (mkF m 58 #[.val (.ref b), .val (.int 0), .val (.int (Int32.ofNat cs.length)), .val (.ref a101), .val (.int (Int32.ofNat cs.length)), .unset] [(.ref a101)]))
    exact Fin.ret (v := some (.ref a101)) X106 (fun h => by rw [Bd.returns] at h; cases h) Bd.notSynchronized (⟨a101, k101, (0 : Int32), (Int32.ofNat cs.length), vs108, rfl, N106_, kp110, (Nat.le_trans (Nat.le_refl _) (Nat.le_of_eq g101.symm)), p106_1, (Or.inl ⟨rfl, rfl, hvs, hal⟩)⟩) (by decide) (by decide) (fun fs hr => retA X106 hx Bd.returns rfl rfl (hb hby d_jdk_52_method_16_58) hr)
  · refine Fin.by (fun tt_ kk_ => XS.istore X106.here hx rfl (hb hby d_jdk_52_method_16_12) rfl (l' := #[.val (.ref b), .val (.int 0), .val (.int (Int32.ofNat cs.length)), .val (.ref a101), .val (.int r107), .unset]) rfl (XS.iload X106.here hx rfl (hb hby d_jdk_52_method_16_14) rfl (XS.iloadN X106.here hx rfl (hb hby d_jdk_52_method_16_16) rfl kk_))) ?_
    show Fin _ _ _ _ _ _ _ (T106.setTop (mkF m 17 #[.val (.ref b), .val (.int 0), .val (.int (Int32.ofNat cs.length)), .val (.ref a101), .val (.int r107), .unset] [(.int (Int32.ofNat cs.length)), (.int r107)]))
    refine Fin.by (fun tt_ kk_ => XS.icmpNo X106.here hx rfl (hb hby d_jdk_52_method_16_17) rfl (feq (by rw [hr]; exact own_neq hi (by omega) : ¬ r107 = (Int32.ofNat cs.length))).1 kk_) ?_
    refine Fin.by (fun tt_ kk_ => XS.aloadN X106.here hx rfl (hb hby d_jdk_52_method_16_20) rfl rfl (XS.iloadN X106.here hx rfl (hb hby d_jdk_52_method_16_21) rfl (XS.iloadN X106.here hx rfl (hb hby d_jdk_52_method_16_22) rfl kk_))) ?_
    have A111 : Arv Z T106.heap b kb .char (Int32.ofNat cs.length) (cs.map Value.int) (.int (0 : Int32)) := (A102.keep p106_0 (ninS ne104 nin0))
    have O112 : Old Z n0 T106.heap := ((OL.ext E101).keep p106_0 (allS g103 all0))
    have z113 : n0 ≤ T106.heap.size := Nat.le_trans z105 p106_0.1
    obtain ⟨v114, _, ⟨T114, L114, k114, n114⟩, -, X114, ⟨Lc114, hQ114, l114, y114, z114⟩, st114⟩ := Jvm.LawKit.callS X106 hx (y := y_12) hown (mvT hZ (w_ hw 94 rfl)) (mvT hZ (w_ hw 95 rfl)) (mvT hZ (w_ hw 64 rfl)) (mvT hZ (w_ hw 96 rfl)) (by decide) (backOf (W := 0) (rm_tobg l Z a0 hw [] b kb cs T106.heap n0 z113 A111 l5 S6 S7 S8 O112) hZ (w_ hw 96 rfl) (w_ hw 64 rfl) (by decide) (by decide)) (g := (mkF m 23 #[.val (.ref b), .val (.int 0), .val (.int (Int32.ofNat cs.length)), .val (.ref a101), .val (.int r107), .unset] [(.int (Int32.ofNat cs.length)), (.int 0), (.ref b)])) rfl (by rw [hml]; rfl) (argsL := [(.ref b), (.int 0), (.int (Int32.ofNat cs.length))]) (rest := []) (lenOf pd_198 rfl) rfl (by show 2 * 0 + _ ≤ _; exact Nat.le_of_eq rfl) (hb hby d_jdk_52_method_16_23) (fun _ _ => ⟨rfl, rfl, (by decide : 1 + 1 ≤ _), (by decide : 5 + 10 ≤ _)⟩)
    dsimp only [Pt.U, Pt.locs, Pt.cells, Pt.slots] at X114 l114 y114 z114 st114 hQ114
    subst l114 y114 z114
    obtain ⟨t115, k116, rfl, Nq114, p114_0, p114_1, p114_2⟩ := hQ114
    have N114_ := Fr.app N106_ Nq114
    refine Fin.by (fun tt_ kk_ => st114 tt_ kk_) ?_
    refine Fin.by (fun tt_ kk_ => XS.astore X114.here hx rfl (hb hby d_jdk_52_method_16_26) rfl rfl (l' := #[.val (.ref b), .val (.int 0), .val (.int (Int32.ofNat cs.length)), .val (.ref a101), .val (.int r107), .val (.ref t115)]) rfl (XS.aload X114.here hx rfl (hb hby d_jdk_52_method_16_28) rfl rfl (XS.iload X114.here hx rfl (hb hby d_jdk_52_method_16_30) rfl kk_))) ?_
    have O117 : Old Z n0 T114.heap := (O112.keep p114_0 all0)
    have z118 : n0 ≤ T114.heap.size := Nat.le_trans z113 p114_0.1
    obtain ⟨v119, _, ⟨T119, L119, k119, n119⟩, -, X119, ⟨Lc119, hQ119, l119, y119, z119⟩, st119⟩ := Jvm.LawKit.callS X114 hx (y := y_4) hown (mvT hZ (w_ hw 110 rfl)) (mvT hZ (w_ hw 111 rfl)) (mvT hZ (w_ hw 64 rfl)) (mvT hZ (w_ hw 112 rfl)) (by decide) (backOf (W := 0) (rm_uge l Z a0 hw [] t115 k116 (Int32.ofNat (2 * cs.length)) ((StrChars.Road.wideBytes cs) : List Value) i r107 (StrChars.lo8 (cs.getD i 0)) (StrChars.hi8 (cs.getD i 0)) T114.heap n0 z118 hr (by rw [own_cl (by omega)]; omega) (by rw [own_cl (by omega)]; omega) (StrChars.Road.wide_lo _ _ _ hi) (StrChars.Road.wide_hi _ _ _ hi) p114_2 S6 S7 S8 O117) hZ (w_ hw 112 rfl) (w_ hw 64 rfl) (by decide) (by decide)) (g := (mkF m 32 #[.val (.ref b), .val (.int 0), .val (.int (Int32.ofNat cs.length)), .val (.ref a101), .val (.int r107), .val (.ref t115)] [(.int r107), (.ref t115)])) rfl (by rw [hml]; rfl) (argsL := [(.ref t115), (.int r107)]) (rest := []) (lenOf pd_71 rfl) rfl (by show 2 * 0 + _ ≤ _; exact Nat.le_of_eq rfl) (hb hby d_jdk_52_method_16_32) (fun _ _ => ⟨rfl, rfl, (by decide : 2 + 0 ≤ _), (by decide : 15 + 0 ≤ _)⟩)
    dsimp only [Pt.U, Pt.locs, Pt.cells, Pt.slots] at X119 l119 y119 z119 st119 hQ119
    subst l119 y119 z119
    obtain ⟨rfl, Nq119, e119_⟩ := hQ119
    have N119_ := Fr.app N114_ Nq119
    refine Fin.by (fun tt_ kk_ => st119 tt_ kk_) ?_
    have e119 := e119_
    refine Fin.by (fun tt_ kk_ => XS.sipush X119.here hx rfl (hb hby d_jdk_52_method_16_35) kk_) ?_
    show Fin _ _ _ _ _ _ _ (T119.setTop (mkF m 38 #[.val (.ref b), .val (.int 0), .val (.int (Int32.ofNat cs.length)), .val (.ref a101), .val (.int r107), .val (.ref t115)] [(.int 255), (.int (nar .char (StrChars.pairCh (StrChars.lo8 (cs.getD i 0)) (StrChars.hi8 (cs.getD i 0)))))]))
    refine Fin.by (fun tt_ kk_ => XS.icmpYes X119.here hx rfl (pc0 := 38) (pc' := 54) rfl (hb hby d_jdk_52_method_16_38) rfl (tlt (by rw [StrChars.pair_says (own_up2 hb3 hi).1 (own_up2 hb3 hi).2, own_narch (own_up2 hb3 hi)]; exact hx8 : (255 : Int32) < (nar .char (StrChars.pairCh (StrChars.lo8 (cs.getD i 0)) (StrChars.hi8 (cs.getD i 0)))))).2.2.1 (by decide) (by decide) kk_) ?_
    refine Fin.by (fun tt_ kk_ => XS.aload X119.here hx rfl (hb hby d_jdk_52_method_16_54) rfl rfl kk_) ?_
    have kp120 : Keep h0 h101 [] := (Keep.refl h0 []).ext E101
    have kp121 : Keep h0 T106.heap [] := kp120.trans p106_0 (allS (Or.inr (Nat.le_trans (Nat.le_refl _) (Nat.le_of_eq g101.symm))) all0)
    have kp122 : Keep h0 T114.heap [] := kp121.trans p114_0 all0
    show Fin _ _ _ _ _ _ _ (T119.setTop (mkF m 56 #[.val (.ref b), .val (.int 0), .val (.int (Int32.ofNat cs.length)), .val (.ref a101), .val (.int r107), .val (.ref t115)] [(.ref t115)]))
    exact Fin.ret (v := some (.ref t115)) X119 (fun h => by rw [Bd.returns] at h; cases h) Bd.notSynchronized (by rw [e119]; exact ⟨t115, k116, (1 : Int32), (Int32.ofNat (2 * cs.length)), (StrChars.Road.wideBytes cs), rfl, N119_, kp122, (Nat.le_trans (Nat.le_trans E101.1 p106_0.1) p114_1), p114_2, (Or.inr ⟨rfl, rfl, rfl, ⟨_, own_getmem hi, hx8⟩⟩)⟩) (by decide) (by decide) (fun fs hr => retA X119 hx Bd.returns rfl rfl (hb hby d_jdk_52_method_16_56) hr)
theorem d_jdk_52_method_15_0 : decode jdk_52_method_15_code 0 = .ok (.iload_n 1, 1) := by decide +kernel
theorem d_jdk_52_method_15_1 : decode jdk_52_method_15_code 1 = .ok (.aload_n 0, 1) := by decide +kernel
theorem d_jdk_52_method_15_2 : decode jdk_52_method_15_code 2 = .ok (.arraylength, 1) := by decide +kernel
theorem d_jdk_52_method_15_3 : decode jdk_52_method_15_code 3 = .ok (.isub, 1) := by decide +kernel
theorem d_jdk_52_method_15_4 : decode jdk_52_method_15_code 4 = .ok (.bipush 31, 2) := by decide +kernel
theorem d_jdk_52_method_15_6 : decode jdk_52_method_15_code 6 = .ok (.iushr, 1) := by decide +kernel
theorem d_jdk_52_method_15_7 : decode jdk_52_method_15_code 7 = .ok (.i2b, 1) := by decide +kernel
theorem d_jdk_52_method_15_8 : decode jdk_52_method_15_code 8 = .ok (.ireturn, 1) := by decide +kernel
def Q_codg (Z : State) (t : Addr) (kt : ClassId) (N2 : Int32) (vs : List Value) (n : Int32) (cd : Int32) (h0 : Heap) (n0 : Nat) (vv_ : Option Value) (hh_ : Heap) (LL_ : List Loc) : Prop := vv_ = some (.int (nar .byte cd)) ∧ Fr n0 LL_ ∧ hh_ = h0
set_option maxRecDepth 65536 in
set_option maxHeartbeats 40000000 in
theorem rm_codg (l : Launch) (Z : State) (a0 : Array Value) (hw : ∀ d ∈ tables_1, d.before a0 Z = true) (ws : List Jvm.Cond) (t : Addr) (kt : ClassId) (N2 : Int32) (vs : List Value) (n : Int32) (cd : Int32) (h0 : Heap) (n0 : Nat) (Z0 : n0 ≤ h0.size) (hcd : (((n - N2).toUInt32 >>> ((31 : Int32) &&& 31).toUInt32).toInt32.toInt8.toInt32) = cd) (A0 : Arv Z h0 t kt .byte N2 vs (.int (0 : Int32))) :
    MetFree l (⟨"java/lang/StringUTF16", "coderFromArrayLen", "([BI)B"⟩ : MethodName) (head1 (Jvm.Cond.code (⟨"java/lang/StringUTF16", "coderFromArrayLen", "([BI)B"⟩ : MethodName) jdk_52_method_15_code 2 (some .byte) :: ws) ({ frames := 0, cells := 0, slots := 0, locals := 0 } : Room)) (fun aa_ U => aa_ = #[(.ref t), (.int n)] ∧ Z.Warmed39 U.vm ∧ U.heap = h0) (fun _ _ _ _ _ => True) (fun _ U o U' => ∃ vv_ LL_, o = .returned vv_ ∧ Q_codg Z t kt N2 vs n cd h0 n0 vv_ U'.heap LL_ ∧ FrameEnd U o U' LL_ 0 0) := by
  refine MetFree.of_bodySF (plainFor_of_name pn_java_lang_StringUTF16) hisR ?_
  intro p e s m args below meth c s₁ Bd hml0 hP hK
  obtain ⟨rfl, hZ, hh⟩ := hP
  have hx := Bd.exec
  have hby := Bd.bytes
  have hml : c.maxLocals = 2 := hml0
  have hown : s.vm.findClass "java/lang/StringUTF16" = some m.cls := findClass_of_methodNamed Bd.named
  have hnm := (name_of_methodNamed Bd.named Bd.method).1
  have X0 : Stand p l e ({ frames := 0, cells := 0, slots := 0, locals := 0 } : Room) s m #[(.ref t), (.int n)] below meth c s₁ [] 0 0 := Stand.of_body Bd
  have e0 : s₁.heap = h0 := by rw [← hh, Bd.state]; rfl
  have N0 := Fr.nil n0
  have ef : entryFrame m #[(.ref t), (.int n)] 2 = mkF m 0 #[.val (.ref t), .val (.int n)] [] := by first | (simp [entryFrame, mkF, argsToLocals, Value.category]; done) | rfl
  refine Fin.start (Q := Q_codg Z t kt N2 vs n cd h0 n0) ef ?_
  refine Fin.by (fun tt_ kk_ => XS.iloadN X0.here hx rfl (hb hby d_jdk_52_method_15_0) rfl (XS.aloadN X0.here hx rfl (hb hby d_jdk_52_method_15_1) rfl rfl kk_)) ?_
  obtain ⟨cl101, Ar101, q101, S101, N101, H101, G101⟩ := id A0
  refine Fin.by (fun tt_ kk_ => X0.arraylength hx (by rw [e0]; exact Ar101.1) (State.isArrayOf_alike hZ.alike Ar101.2.1) (g := (mkF m 2 #[.val (.ref t), .val (.int n)] [(.ref t), (.int n)])) rfl rfl (hb hby d_jdk_52_method_15_2) _ kk_) ?_
  rw [len_of S101 N101]
  refine Fin.by (fun tt_ kk_ => XS.isub X0.here hx rfl (hb hby d_jdk_52_method_15_3) rfl (XS.bipush X0.here hx rfl (hb hby d_jdk_52_method_15_4) (XS.iushr X0.here hx rfl (hb hby d_jdk_52_method_15_6) rfl (XS.i2b X0.here hx rfl (hb hby d_jdk_52_method_15_7) rfl kk_)))) ?_
  show Fin _ _ _ _ _ _ _ (s₁.setTop (mkF m 8 #[.val (.ref t), .val (.int n)] [(.int ((((n - N2).toUInt32 >>> ((31 : Int32) &&& 31).toUInt32).toInt32).toInt8.toInt32))]))
  exact Fin.ret (v := some (.int (nar .byte ((((n - N2).toUInt32 >>> ((31 : Int32) &&& 31).toUInt32).toInt32).toInt8.toInt32)))) X0 (fun h => by rw [Bd.returns] at h; cases h) Bd.notSynchronized (by rw [e0]; exact ⟨(congrArg (fun q => some (Value.int (nar .byte q))) hcd), N0, rfl⟩) (by decide) (by decide) (fun fs hr => retN X0 hx (t := .byte) Bd.returns (by simp) (hb hby d_jdk_52_method_15_8) hr)
abbrev y_13 : MethodName := (⟨"java/lang/StringUTF16", "compress", "([CII)[B"⟩ : MethodName)
abbrev y_14 : MethodName := (⟨"java/lang/StringUTF16", "coderFromArrayLen", "([BI)B"⟩ : MethodName)
theorem d_jdk_42_method_149_0 : decode jdk_42_method_149_code 0 = .ok (.aload_n 0, 1) := by decide +kernel
theorem d_jdk_42_method_149_1 : decode jdk_42_method_149_code 1 = .ok (.invokespecial 1, 3) := by decide +kernel
theorem d_jdk_42_method_149_4 : decode jdk_42_method_149_code 4 = .ok (.iload_n 3, 1) := by decide +kernel
theorem d_jdk_42_method_149_5 : decode jdk_42_method_149_code 5 = .ok (.ifCond .ne 22, 3) := by decide +kernel
theorem d_jdk_42_method_149_27 : decode jdk_42_method_149_code 27 = .ok (.getstatic 38, 3) := by decide +kernel
theorem d_jdk_42_method_149_30 : decode jdk_42_method_149_code 30 = .ok (.ifCond .eq 28, 3) := by decide +kernel
theorem d_jdk_42_method_149_33 : decode jdk_42_method_149_code 33 = .ok (.aload_n 1, 1) := by decide +kernel
theorem d_jdk_42_method_149_34 : decode jdk_42_method_149_code 34 = .ok (.iload_n 2, 1) := by decide +kernel
theorem d_jdk_42_method_149_35 : decode jdk_42_method_149_code 35 = .ok (.iload_n 3, 1) := by decide +kernel
theorem d_jdk_42_method_149_36 : decode jdk_42_method_149_code 36 = .ok (.invokestatic 177, 3) := by decide +kernel
theorem d_jdk_42_method_149_39 : decode jdk_42_method_149_code 39 = .ok (.astore 5, 2) := by decide +kernel
theorem d_jdk_42_method_149_41 : decode jdk_42_method_149_code 41 = .ok (.aload_n 0, 1) := by decide +kernel
theorem d_jdk_42_method_149_42 : decode jdk_42_method_149_code 42 = .ok (.aload 5, 2) := by decide +kernel
theorem d_jdk_42_method_149_44 : decode jdk_42_method_149_code 44 = .ok (.iload_n 3, 1) := by decide +kernel
theorem pd_230 : parseMethodDescriptor "([BI)B" = some ⟨[(.array .byte), .int], some .byte⟩ := by decide +kernel
theorem d_jdk_42_method_149_45 : decode jdk_42_method_149_code 45 = .ok (.invokestatic 47, 3) := by decide +kernel
theorem d_jdk_42_method_149_48 : decode jdk_42_method_149_code 48 = .ok (.putfield 15, 3) := by decide +kernel
theorem d_jdk_42_method_149_51 : decode jdk_42_method_149_code 51 = .ok (.aload_n 0, 1) := by decide +kernel
theorem d_jdk_42_method_149_52 : decode jdk_42_method_149_code 52 = .ok (.aload 5, 2) := by decide +kernel
theorem d_jdk_42_method_149_54 : decode jdk_42_method_149_code 54 = .ok (.putfield 9, 3) := by decide +kernel
theorem d_jdk_42_method_149_57 : decode jdk_42_method_149_code 57 = .ok (.return_, 1) := by decide +kernel
def Q_n4g (Z : State) (a : Addr) (b : Addr) (kb : ClassId) (cs : List Int32) (G1 : Int32) (h0 : Heap) (n0 : Nat) (vv_ : Option Value) (hh_ : Heap) (LL_ : List Loc) : Prop := ∃ (t : Addr), ∃ (k : ClassId), ∃ (cd : Int32), ∃ (N2 : Int32), ∃ (vs : List Value), vv_ = none ∧ Fr n0 LL_ ∧ Keep h0 hh_ [a] ∧ h0.size ≤ t ∧ Exa Z hh_ a "java/lang/String" ∧ Fld Z hh_ a "java/lang/String" "value" "[B" (.ref t) ∧ Fld Z hh_ a "java/lang/String" "coder" "B" (.int cd) ∧ Arv Z hh_ t k .byte N2 vs (.int (0 : Int32)) ∧ (StrChars.Road.CodA cs cd N2 vs)
set_option maxRecDepth 65536 in
set_option maxHeartbeats 40000000 in
theorem rm_n4g (l : Launch) (Z : State) (a0 : Array Value) (hw : ∀ d ∈ tables_1, d.before a0 Z = true) (ws : List Jvm.Cond) (a : Addr) (b : Addr) (kb : ClassId) (cs : List Int32) (G1 : Int32) (h0 : Heap) (n0 : Nat) (Z0 : n0 ≤ h0.size) (E0 : Exa Z h0 a "java/lang/String") (F0 : Fld Z h0 a "java/lang/String" "value" "[B" .null) (F1 : Fld Z h0 a "java/lang/String" "coder" "B" (.int (0 : Int32))) (ga : n0 ≤ a) (Ab : Arv Z h0 b kb .char (Int32.ofNat cs.length) (cs.map Value.int) (.int (0 : Int32))) (l5 : cs.length ≤ 5) (hb3 : ∀ c ∈ cs, ¬ c < 0 ∧ ¬ (65535 : Int32) < c) (hn0 : 0 < cs.length) (S1 : Sta Z Z.heap "java/lang/String" "COMPACT_STRINGS" "Z" (.int G1)) (P1 : ¬ G1 = 0) (S6 : Sta Z Z.heap "java/lang/StringUTF16" "$assertionsDisabled" "Z" (.int (1 : Int32))) (S7 : Sta Z Z.heap "java/lang/StringUTF16" "HI_BYTE_SHIFT" "I" (.int (0 : Int32))) (S8 : Sta Z Z.heap "java/lang/StringUTF16" "LO_BYTE_SHIFT" "I" (.int (8 : Int32))) (OL : Old Z n0 h0) :
    MetFree l (⟨"java/lang/String", "<init>", "([CIILjava/lang/Void;)V"⟩ : MethodName) (head1 (Jvm.Cond.code (⟨"java/lang/String", "<init>", "([CIILjava/lang/Void;)V"⟩ : MethodName) jdk_42_method_149_code 6 none :: ws) ({ frames := 4, cells := 2, slots := 15, locals := 57 } : Room)) (fun aa_ U => aa_ = #[(.ref a), (.ref b), (.int (0 : Int32)), (.int (Int32.ofNat cs.length)), .null] ∧ Z.Warmed39 U.vm ∧ U.heap = h0) (fun _ _ _ _ _ => True) (fun _ U o U' => ∃ vv_ LL_, o = .returned vv_ ∧ Q_n4g Z a b kb cs G1 h0 n0 vv_ U'.heap LL_ ∧ FrameEnd U o U' LL_ 2 15) := by
  refine MetFree.of_bodySF (plainFor_of_name pn_java_lang_String) hisR ?_
  intro p e s m args below meth c s₁ Bd hml0 hP hK
  obtain ⟨rfl, hZ, hh⟩ := hP
  have hx := Bd.exec
  have hby := Bd.bytes
  have hml : c.maxLocals = 6 := hml0
  have hown : s.vm.findClass "java/lang/String" = some m.cls := findClass_of_methodNamed Bd.named
  have hnm := (name_of_methodNamed Bd.named Bd.method).1
  have X0 : Stand p l e ({ frames := 4, cells := 2, slots := 15, locals := 57 } : Room) s m #[(.ref a), (.ref b), (.int (0 : Int32)), (.int (Int32.ofNat cs.length)), .null] below meth c s₁ [] 0 0 := Stand.of_body Bd
  have e0 : s₁.heap = h0 := by rw [← hh, Bd.state]; rfl
  have N0 := Fr.nil n0
  have ef : entryFrame m #[(.ref a), (.ref b), (.int (0 : Int32)), (.int (Int32.ofNat cs.length)), .null] 6 = mkF m 0 #[.val (.ref a), .val (.ref b), .val (.int (0 : Int32)), .val (.int (Int32.ofNat cs.length)), .val .null, .unset] [] := by first | (simp [entryFrame, mkF, argsToLocals, Value.category]; done) | rfl
  refine Fin.start (Q := Q_n4g Z a b kb cs G1 h0 n0) ef ?_
  refine Fin.by (fun tt_ kk_ => XS.aloadN X0.here hx rfl (hb hby d_jdk_42_method_149_0) rfl rfl kk_) ?_
  obtain ⟨T101, X101, e101, st101⟩ := initO X0 hx hZ hown (w_ hw 17 rfl) (w_ hw 18 rfl) (w_ hw 19 rfl) e0 (g := (mkF m 1 #[.val (.ref a), .val (.ref b), .val (.int 0), .val (.int (Int32.ofNat cs.length)), .val .null, .unset] [(.ref a)])) rfl (by rw [hml]; rfl) rfl (hb hby d_jdk_42_method_149_1) (by decide) (W := 0) (by show 2 * 0 + _ ≤ _; exact Nat.le_of_eq rfl) (by decide)
  refine Fin.by (fun tt_ kk_ => st101 tt_ kk_) ?_
  refine Fin.by (fun tt_ kk_ => XS.iloadN X101.here hx rfl (hb hby d_jdk_42_method_149_4) rfl kk_) ?_
  show Fin _ _ _ _ _ _ _ (T101.setTop (mkF m 5 #[.val (.ref a), .val (.ref b), .val (.int 0), .val (.int (Int32.ofNat cs.length)), .val .null, .unset] [(.int (Int32.ofNat cs.length))]))
  refine Fin.by (fun tt_ kk_ => XS.ifYes X101.here hx rfl (pc0 := 5) (pc' := 27) rfl (hb hby d_jdk_42_method_149_5) rfl ((if0 _ _).trans (feq (own_ne0 hn0 (by omega) : ¬ (Int32.ofNat cs.length) = (0 : Int32))).2) (by decide) (by decide) kk_) ?_
  obtain ⟨T102, X102, e102, st102⟩ := getS X101 hx hZ (host := "") hown (w_ hw 42 rfl) Via.refl e101 (S1.ext OL.2) (g := (mkF m 27 #[.val (.ref a), .val (.ref b), .val (.int 0), .val (.int (Int32.ofNat cs.length)), .val .null, .unset] [])) rfl (hb hby d_jdk_42_method_149_27)
  refine Fin.by (fun tt_ kk_ => st102 tt_ kk_) ?_
  show Fin _ _ _ _ _ _ _ (T102.setTop (mkF m 30 #[.val (.ref a), .val (.ref b), .val (.int 0), .val (.int (Int32.ofNat cs.length)), .val .null, .unset] [(.int G1)]))
  refine Fin.by (fun tt_ kk_ => XS.ifNo X102.here hx rfl (hb hby d_jdk_42_method_149_30) rfl ((if0 _ _).trans (feq (P1 : ¬ G1 = (0 : Int32))).1) kk_) ?_
  refine Fin.by (fun tt_ kk_ => XS.aloadN X102.here hx rfl (hb hby d_jdk_42_method_149_33) rfl rfl (XS.iloadN X102.here hx rfl (hb hby d_jdk_42_method_149_34) rfl (XS.iloadN X102.here hx rfl (hb hby d_jdk_42_method_149_35) rfl kk_))) ?_
  obtain ⟨v103, _, ⟨T103, L103, k103, n103⟩, -, X103, ⟨Lc103, hQ103, l103, y103, z103⟩, st103⟩ := Jvm.LawKit.callS X102 hx (y := y_13) hown (mvT hZ (w_ hw 62 rfl)) (mvT hZ (w_ hw 63 rfl)) (mvT hZ (w_ hw 64 rfl)) (mvT hZ (w_ hw 65 rfl)) (by decide) (backOf (W := 0) (rm_c3g l Z a0 hw [] b kb cs h0 n0 Z0 Ab l5 hb3 S6 S7 S8 OL) hZ (w_ hw 65 rfl) (w_ hw 64 rfl) (by decide) (by decide)) (g := (mkF m 36 #[.val (.ref a), .val (.ref b), .val (.int 0), .val (.int (Int32.ofNat cs.length)), .val .null, .unset] [(.int (Int32.ofNat cs.length)), (.int 0), (.ref b)])) rfl (by rw [hml]; rfl) (argsL := [(.ref b), (.int 0), (.int (Int32.ofNat cs.length))]) (rest := []) (lenOf pd_198 rfl) rfl (by show 2 * 0 + _ ≤ _; exact Nat.le_of_eq rfl) (hb hby d_jdk_42_method_149_36) (fun _ _ => ⟨rfl, e102, (by decide : 0 + 2 ≤ _), (by decide : 0 + 15 ≤ _)⟩)
  dsimp only [Pt.U, Pt.locs, Pt.cells, Pt.slots] at X103 l103 y103 z103 st103 hQ103
  subst l103 y103 z103
  obtain ⟨t104, k105, cd106, N107, vs108, rfl, Nq103, p103_0, p103_1, p103_2, p103_3⟩ := hQ103
  have N103_ := Fr.app N0 Nq103
  refine Fin.by (fun tt_ kk_ => st103 tt_ kk_) ?_
  rcases id p103_3 with ⟨hcd, hN2, hvs, -⟩ | ⟨hcd, hN2, hvs, -⟩
  · subst hcd
    refine Fin.by (fun tt_ kk_ => XS.astore X103.here hx rfl (hb hby d_jdk_42_method_149_39) rfl rfl (l' := #[.val (.ref a), .val (.ref b), .val (.int 0), .val (.int (Int32.ofNat cs.length)), .val .null, .val (.ref t104)]) rfl (XS.aloadN X103.here hx rfl (hb hby d_jdk_42_method_149_41) rfl rfl (XS.aload X103.here hx rfl (hb hby d_jdk_42_method_149_42) rfl rfl (XS.iloadN X103.here hx rfl (hb hby d_jdk_42_method_149_44) rfl kk_)))) ?_
    have z109 : n0 ≤ T103.heap.size := Nat.le_trans Z0 p103_0.1
    obtain ⟨v110, _, ⟨T110, L110, k110, n110⟩, -, X110, ⟨Lc110, hQ110, l110, y110, z110⟩, st110⟩ := Jvm.LawKit.callS X103 hx (y := y_14) hown (mvT hZ (w_ hw 69 rfl)) (mvT hZ (w_ hw 70 rfl)) (mvT hZ (w_ hw 64 rfl)) (mvT hZ (w_ hw 71 rfl)) (by decide) (backOf (W := 1) (rm_codg l Z a0 hw [] t104 k105 N107 (vs108 : List Value) (Int32.ofNat cs.length) (0 : Int32) T103.heap n0 z109 (by rw [hN2]; exact own_cd0 _) p103_2) hZ (w_ hw 71 rfl) (w_ hw 64 rfl) (by decide) (by decide)) (g := (mkF m 45 #[.val (.ref a), .val (.ref b), .val (.int 0), .val (.int (Int32.ofNat cs.length)), .val .null, .val (.ref t104)] [(.int (Int32.ofNat cs.length)), (.ref t104), (.ref a)])) rfl (by rw [hml]; rfl) (argsL := [(.ref t104), (.int (Int32.ofNat cs.length))]) (rest := [(.ref a)]) (lenOf pd_230 rfl) rfl (by show 2 * 0 + _ ≤ _; exact Nat.le_of_eq rfl) (hb hby d_jdk_42_method_149_45) (fun _ _ => ⟨rfl, rfl, (by decide : 2 + 0 ≤ _), (by decide : 15 + 0 ≤ _)⟩)
    dsimp only [Pt.U, Pt.locs, Pt.cells, Pt.slots] at X110 l110 y110 z110 st110 hQ110
    subst l110 y110 z110
    obtain ⟨rfl, Nq110, e110_⟩ := hQ110
    have N110_ := Fr.app N103_ Nq110
    refine Fin.by (fun tt_ kk_ => st110 tt_ kk_) ?_
    have e110 := e110_
    have F111 : Fld Z T103.heap a "java/lang/String" "coder" "B" (.int (0 : Int32)) := (F1.keep p103_0 nin0)
    have E112 : Exa Z T103.heap a "java/lang/String" := (E0.keep p103_0)
    obtain ⟨T113, h113, X113, e113, W113, st113⟩ := putFN X110 hx hZ hown (w_ hw 27 rfl) Via.refl e110 F111 E112 (Or.inr ⟨(w_ hw 23 rfl), rfl, hnm⟩) (w_ hw 7 rfl) (ty := .byte) (v' := .int (0 : Int32)) (by decide) rfl rfl (g := (mkF m 48 #[.val (.ref a), .val (.ref b), .val (.int 0), .val (.int (Int32.ofNat cs.length)), .val .null, .val (.ref t104)] [(.int (nar .byte 0)), (.ref a)])) rfl rfl (hb hby d_jdk_42_method_149_48)
    refine Fin.by (fun tt_ kk_ => st113 tt_ kk_) ?_
    have N113_ := Fr.snoc X113 N110_ ga
    refine Fin.by (fun tt_ kk_ => XS.aloadN X113.here hx rfl (hb hby d_jdk_42_method_149_51) rfl rfl (XS.aload X113.here hx rfl (hb hby d_jdk_42_method_149_52) rfl rfl kk_)) ?_
    have F114 : Fld Z h113 a "java/lang/String" "value" "[B" .null := ((F0.keep p103_0 nin0).other W113 (Or.inr (slot_ne (Or.inr (w_ hw 22 rfl)) (Or.inr (w_ hw 23 rfl)) (by decide) (t := (.array .byte)) (t' := .byte) (by decide) (by decide))))
    have E115 : Exa Z h113 a "java/lang/String" := (E112.wr W113)
    obtain ⟨T116, h116, X116, e116, W116, st116⟩ := putF X113 hx hZ hown (host := "") (Or.inl (w_ hw 26 rfl)) Via.refl e113 F114 E115 (Or.inr ⟨(w_ hw 22 rfl), rfl, hnm⟩) (w_ hw 7 rfl) (ty := (.array .byte)) (by decide) rfl rfl (g := (mkF m 54 #[.val (.ref a), .val (.ref b), .val (.int 0), .val (.int (Int32.ofNat cs.length)), .val .null, .val (.ref t104)] [(.ref t104), (.ref a)])) rfl rfl (hb hby d_jdk_42_method_149_54)
    refine Fin.by (fun tt_ kk_ => st116 tt_ kk_) ?_
    have N116_ := Fr.snoc X116 N113_ ga
    have kp117 : Keep h0 T103.heap [a] := (Keep.refl h0 [a]).trans p103_0 all0
    have kp118 : Keep h0 h113 [a] := kp117.wr W113 (Or.inl (List.mem_of_getElem? (i := 0) rfl))
    have kp119 : Keep h0 h116 [a] := kp118.wr W116 (Or.inl (List.mem_of_getElem? (i := 0) rfl))
    have E120 : Exa Z h116 a "java/lang/String" := (E115.wr W116)
    have F121 : Fld Z h116 a "java/lang/String" "coder" "B" (.int (0 : Int32)) := ((F111.same W113).other W116 (Or.inr (slot_ne (Or.inr (w_ hw 23 rfl)) (Or.inr (w_ hw 22 rfl)) (by decide) (t := .byte) (t' := (.array .byte)) (by decide) (by decide))))
    have ne122 : a ≠ t104 := Nat.ne_of_lt (Nat.lt_of_lt_of_le E0.lt p103_1)
    have A123 : Arv Z h116 t104 k105 .byte N107 vs108 (.int (0 : Int32)) := ((p103_2.other W113 (Ne.symm ne122)).other W116 (Ne.symm ne122))
    show Fin _ _ _ _ _ _ _ (T116.setTop (mkF m 57 #[.val (.ref a), .val (.ref b), .val (.int 0), .val (.int (Int32.ofNat cs.length)), .val .null, .val (.ref t104)] []))
    exact Fin.ret (v := none) X116 (fun _ => rfl) Bd.notSynchronized (by rw [e116]; exact ⟨t104, k105, (0 : Int32), N107, vs108, rfl, N116_, kp119, (Nat.le_trans (Nat.le_refl _) p103_1), E120, (F114.same W116), F121, A123, p103_3⟩) (by decide) (by decide) (fun fs hr => X116.returnOut hx Bd.returns (hb hby d_jdk_42_method_149_57) hr)
  · subst hcd
    refine Fin.by (fun tt_ kk_ => XS.astore X103.here hx rfl (hb hby d_jdk_42_method_149_39) rfl rfl (l' := #[.val (.ref a), .val (.ref b), .val (.int 0), .val (.int (Int32.ofNat cs.length)), .val .null, .val (.ref t104)]) rfl (XS.aloadN X103.here hx rfl (hb hby d_jdk_42_method_149_41) rfl rfl (XS.aload X103.here hx rfl (hb hby d_jdk_42_method_149_42) rfl rfl (XS.iloadN X103.here hx rfl (hb hby d_jdk_42_method_149_44) rfl kk_)))) ?_
    have z124 : n0 ≤ T103.heap.size := Nat.le_trans Z0 p103_0.1
    obtain ⟨v125, _, ⟨T125, L125, k125, n125⟩, -, X125, ⟨Lc125, hQ125, l125, y125, z125⟩, st125⟩ := Jvm.LawKit.callS X103 hx (y := y_14) hown (mvT hZ (w_ hw 69 rfl)) (mvT hZ (w_ hw 70 rfl)) (mvT hZ (w_ hw 64 rfl)) (mvT hZ (w_ hw 71 rfl)) (by decide) (backOf (W := 1) (rm_codg l Z a0 hw [] t104 k105 N107 (vs108 : List Value) (Int32.ofNat cs.length) (1 : Int32) T103.heap n0 z124 (by rw [hN2]; exact own_cd1a _ (by omega) hn0) p103_2) hZ (w_ hw 71 rfl) (w_ hw 64 rfl) (by decide) (by decide)) (g := (mkF m 45 #[.val (.ref a), .val (.ref b), .val (.int 0), .val (.int (Int32.ofNat cs.length)), .val .null, .val (.ref t104)] [(.int (Int32.ofNat cs.length)), (.ref t104), (.ref a)])) rfl (by rw [hml]; rfl) (argsL := [(.ref t104), (.int (Int32.ofNat cs.length))]) (rest := [(.ref a)]) (lenOf pd_230 rfl) rfl (by show 2 * 0 + _ ≤ _; exact Nat.le_of_eq rfl) (hb hby d_jdk_42_method_149_45) (fun _ _ => ⟨rfl, rfl, (by decide : 2 + 0 ≤ _), (by decide : 15 + 0 ≤ _)⟩)
    dsimp only [Pt.U, Pt.locs, Pt.cells, Pt.slots] at X125 l125 y125 z125 st125 hQ125
    subst l125 y125 z125
    obtain ⟨rfl, Nq125, e125_⟩ := hQ125
    have N125_ := Fr.app N103_ Nq125
    refine Fin.by (fun tt_ kk_ => st125 tt_ kk_) ?_
    have e125 := e125_
    have F126 : Fld Z T103.heap a "java/lang/String" "coder" "B" (.int (0 : Int32)) := (F1.keep p103_0 nin0)
    have E127 : Exa Z T103.heap a "java/lang/String" := (E0.keep p103_0)
    obtain ⟨T128, h128, X128, e128, W128, st128⟩ := putFN X125 hx hZ hown (w_ hw 27 rfl) Via.refl e125 F126 E127 (Or.inr ⟨(w_ hw 23 rfl), rfl, hnm⟩) (w_ hw 7 rfl) (ty := .byte) (v' := .int (1 : Int32)) (by decide) rfl rfl (g := (mkF m 48 #[.val (.ref a), .val (.ref b), .val (.int 0), .val (.int (Int32.ofNat cs.length)), .val .null, .val (.ref t104)] [(.int (nar .byte 1)), (.ref a)])) rfl rfl (hb hby d_jdk_42_method_149_48)
    refine Fin.by (fun tt_ kk_ => st128 tt_ kk_) ?_
    have N128_ := Fr.snoc X128 N125_ ga
    refine Fin.by (fun tt_ kk_ => XS.aloadN X128.here hx rfl (hb hby d_jdk_42_method_149_51) rfl rfl (XS.aload X128.here hx rfl (hb hby d_jdk_42_method_149_52) rfl rfl kk_)) ?_
    have F129 : Fld Z h128 a "java/lang/String" "value" "[B" .null := ((F0.keep p103_0 nin0).other W128 (Or.inr (slot_ne (Or.inr (w_ hw 22 rfl)) (Or.inr (w_ hw 23 rfl)) (by decide) (t := (.array .byte)) (t' := .byte) (by decide) (by decide))))
    have E130 : Exa Z h128 a "java/lang/String" := (E127.wr W128)
    obtain ⟨T131, h131, X131, e131, W131, st131⟩ := putF X128 hx hZ hown (host := "") (Or.inl (w_ hw 26 rfl)) Via.refl e128 F129 E130 (Or.inr ⟨(w_ hw 22 rfl), rfl, hnm⟩) (w_ hw 7 rfl) (ty := (.array .byte)) (by decide) rfl rfl (g := (mkF m 54 #[.val (.ref a), .val (.ref b), .val (.int 0), .val (.int (Int32.ofNat cs.length)), .val .null, .val (.ref t104)] [(.ref t104), (.ref a)])) rfl rfl (hb hby d_jdk_42_method_149_54)
    refine Fin.by (fun tt_ kk_ => st131 tt_ kk_) ?_
    have N131_ := Fr.snoc X131 N128_ ga
    have kp132 : Keep h0 T103.heap [a] := (Keep.refl h0 [a]).trans p103_0 all0
    have kp133 : Keep h0 h128 [a] := kp132.wr W128 (Or.inl (List.mem_of_getElem? (i := 0) rfl))
    have kp134 : Keep h0 h131 [a] := kp133.wr W131 (Or.inl (List.mem_of_getElem? (i := 0) rfl))
    have E135 : Exa Z h131 a "java/lang/String" := (E130.wr W131)
    have F136 : Fld Z h131 a "java/lang/String" "coder" "B" (.int (1 : Int32)) := ((F126.same W128).other W131 (Or.inr (slot_ne (Or.inr (w_ hw 23 rfl)) (Or.inr (w_ hw 22 rfl)) (by decide) (t := .byte) (t' := (.array .byte)) (by decide) (by decide))))
    have ne137 : a ≠ t104 := Nat.ne_of_lt (Nat.lt_of_lt_of_le E0.lt p103_1)
    have A138 : Arv Z h131 t104 k105 .byte N107 vs108 (.int (0 : Int32)) := ((p103_2.other W128 (Ne.symm ne137)).other W131 (Ne.symm ne137))
    show Fin _ _ _ _ _ _ _ (T131.setTop (mkF m 57 #[.val (.ref a), .val (.ref b), .val (.int 0), .val (.int (Int32.ofNat cs.length)), .val .null, .val (.ref t104)] []))
    exact Fin.ret (v := none) X131 (fun _ => rfl) Bd.notSynchronized (by rw [e131]; exact ⟨t104, k105, (1 : Int32), N107, vs108, rfl, N131_, kp134, (Nat.le_trans (Nat.le_refl _) p103_1), E135, (F129.same W131), F136, A138, p103_3⟩) (by decide) (by decide) (fun fs hr => X131.returnOut hx Bd.returns (hb hby d_jdk_42_method_149_57) hr)
abbrev y_15 : MethodName := (⟨"java/lang/String", "<init>", "([CIILjava/lang/Void;)V"⟩ : MethodName)
theorem d_jdk_42_method_3_0 : decode jdk_42_method_3_code 0 = .ok (.aload_n 0, 1) := by decide +kernel
theorem d_jdk_42_method_3_1 : decode jdk_42_method_3_code 1 = .ok (.aload_n 1, 1) := by decide +kernel
theorem d_jdk_42_method_3_2 : decode jdk_42_method_3_code 2 = .ok (.iconst 0, 1) := by decide +kernel
theorem d_jdk_42_method_3_3 : decode jdk_42_method_3_code 3 = .ok (.aload_n 1, 1) := by decide +kernel
theorem d_jdk_42_method_3_4 : decode jdk_42_method_3_code 4 = .ok (.arraylength, 1) := by decide +kernel
theorem d_jdk_42_method_3_5 : decode jdk_42_method_3_code 5 = .ok (.aconst_null, 1) := by decide +kernel
theorem pd_243 : parseMethodDescriptor "([CIILjava/lang/Void;)V" = some ⟨[(.array .char), .int, .int, (.object "java/lang/Void")], none⟩ := by decide +kernel
theorem d_jdk_42_method_3_6 : decode jdk_42_method_3_code 6 = .ok (.invokespecial 27, 3) := by decide +kernel
theorem d_jdk_42_method_3_9 : decode jdk_42_method_3_code 9 = .ok (.return_, 1) := by decide +kernel
def Q_n1g (Z : State) (a : Addr) (b : Addr) (kb : ClassId) (cs : List Int32) (G1 : Int32) (h0 : Heap) (n0 : Nat) (vv_ : Option Value) (hh_ : Heap) (LL_ : List Loc) : Prop := ∃ (t : Addr), ∃ (k : ClassId), ∃ (cd : Int32), ∃ (N2 : Int32), ∃ (vs : List Value), vv_ = none ∧ Fr n0 LL_ ∧ Keep h0 hh_ [a] ∧ h0.size ≤ t ∧ Exa Z hh_ a "java/lang/String" ∧ Fld Z hh_ a "java/lang/String" "value" "[B" (.ref t) ∧ Fld Z hh_ a "java/lang/String" "coder" "B" (.int cd) ∧ Arv Z hh_ t k .byte N2 vs (.int (0 : Int32)) ∧ (StrChars.Road.CodA cs cd N2 vs)
set_option maxRecDepth 65536 in
set_option maxHeartbeats 40000000 in
theorem rm_n1g (l : Launch) (Z : State) (a0 : Array Value) (hw : ∀ d ∈ tables_1, d.before a0 Z = true) (ws : List Jvm.Cond) (a : Addr) (b : Addr) (kb : ClassId) (cs : List Int32) (G1 : Int32) (h0 : Heap) (n0 : Nat) (Z0 : n0 ≤ h0.size) (E0 : Exa Z h0 a "java/lang/String") (F0 : Fld Z h0 a "java/lang/String" "value" "[B" .null) (F1 : Fld Z h0 a "java/lang/String" "coder" "B" (.int (0 : Int32))) (ga : n0 ≤ a) (Ab : Arv Z h0 b kb .char (Int32.ofNat cs.length) (cs.map Value.int) (.int (0 : Int32))) (l5 : cs.length ≤ 5) (hb3 : ∀ c ∈ cs, ¬ c < 0 ∧ ¬ (65535 : Int32) < c) (hn0 : 0 < cs.length) (S1 : Sta Z Z.heap "java/lang/String" "COMPACT_STRINGS" "Z" (.int G1)) (P1 : ¬ G1 = 0) (S6 : Sta Z Z.heap "java/lang/StringUTF16" "$assertionsDisabled" "Z" (.int (1 : Int32))) (S7 : Sta Z Z.heap "java/lang/StringUTF16" "HI_BYTE_SHIFT" "I" (.int (0 : Int32))) (S8 : Sta Z Z.heap "java/lang/StringUTF16" "LO_BYTE_SHIFT" "I" (.int (8 : Int32))) (OL : Old Z n0 h0) :
    MetFree l (⟨"java/lang/String", "<init>", "([C)V"⟩ : MethodName) (head1 (Jvm.Cond.code (⟨"java/lang/String", "<init>", "([C)V"⟩ : MethodName) jdk_42_method_3_code 2 none :: ws) ({ frames := 5, cells := 2, slots := 15, locals := 74 } : Room)) (fun aa_ U => aa_ = #[(.ref a), (.ref b)] ∧ Z.Warmed39 U.vm ∧ U.heap = h0) (fun _ _ _ _ _ => True) (fun _ U o U' => ∃ vv_ LL_, o = .returned vv_ ∧ Q_n1g Z a b kb cs G1 h0 n0 vv_ U'.heap LL_ ∧ FrameEnd U o U' LL_ 2 15) := by
  refine MetFree.of_bodySF (plainFor_of_name pn_java_lang_String) hisR ?_
  intro p e s m args below meth c s₁ Bd hml0 hP hK
  obtain ⟨rfl, hZ, hh⟩ := hP
  have hx := Bd.exec
  have hby := Bd.bytes
  have hml : c.maxLocals = 2 := hml0
  have hown : s.vm.findClass "java/lang/String" = some m.cls := findClass_of_methodNamed Bd.named
  have hnm := (name_of_methodNamed Bd.named Bd.method).1
  have X0 : Stand p l e ({ frames := 5, cells := 2, slots := 15, locals := 74 } : Room) s m #[(.ref a), (.ref b)] below meth c s₁ [] 0 0 := Stand.of_body Bd
  have e0 : s₁.heap = h0 := by rw [← hh, Bd.state]; rfl
  have N0 := Fr.nil n0
  have ef : entryFrame m #[(.ref a), (.ref b)] 2 = mkF m 0 #[.val (.ref a), .val (.ref b)] [] := by first | (simp [entryFrame, mkF, argsToLocals, Value.category]; done) | rfl
  refine Fin.start (Q := Q_n1g Z a b kb cs G1 h0 n0) ef ?_
  refine Fin.by (fun tt_ kk_ => XS.aloadN X0.here hx rfl (hb hby d_jdk_42_method_3_0) rfl rfl (XS.aloadN X0.here hx rfl (hb hby d_jdk_42_method_3_1) rfl rfl (XS.iconst X0.here hx rfl (hb hby d_jdk_42_method_3_2) (XS.aloadN X0.here hx rfl (hb hby d_jdk_42_method_3_3) rfl rfl kk_)))) ?_
  obtain ⟨cl101, Ar101, q101, S101, N101, H101, G101⟩ := id Ab
  refine Fin.by (fun tt_ kk_ => X0.arraylength hx (by rw [e0]; exact Ar101.1) (State.isArrayOf_alike hZ.alike Ar101.2.1) (g := (mkF m 4 #[.val (.ref a), .val (.ref b)] [(.ref b), (.int 0), (.ref b), (.ref a)])) rfl rfl (hb hby d_jdk_42_method_3_4) _ kk_) ?_
  rw [len_of S101 N101]
  refine Fin.by (fun tt_ kk_ => XS.aconstNull X0.here hx rfl (hb hby d_jdk_42_method_3_5) kk_) ?_
  obtain ⟨v102, _, ⟨T102, L102, k102, n102⟩, -, X102, ⟨Lc102, hQ102, l102, y102, z102⟩, st102⟩ := X0.specialBack hx (y := y_15) rfl hown (mvT hZ (w_ hw 13 rfl)) (mvT hZ (w_ hw 14 rfl)) (mvT hZ (w_ hw 16 rfl)) (by decide) (backOf (W := 0) (rm_n4g l Z a0 hw [] a b kb cs G1 h0 n0 Z0 E0 F0 F1 ga Ab l5 hb3 hn0 S1 P1 S6 S7 S8 OL) hZ (w_ hw 16 rfl) (w_ hw 8 rfl) (by decide) (by decide)) (g := (mkF m 6 #[.val (.ref a), .val (.ref b)] [.null, (.int (Int32.ofNat cs.length)), (.int 0), (.ref b), (.ref a)])) rfl (by rw [hml]; rfl) (Steps.refl _) (a := a) (argsL := [(.ref b), (.int 0), (.int (Int32.ofNat cs.length)), .null]) (rest := []) (lenOf pd_243 rfl) rfl (by show 2 * 0 + _ ≤ _; exact Nat.le_of_eq rfl) (hb hby d_jdk_42_method_3_6) (fun _ _ => ⟨rfl, e0, (by decide : 0 + 2 ≤ _), (by decide : 0 + 15 ≤ _)⟩)
  dsimp only [Pt.U, Pt.locs, Pt.cells, Pt.slots] at X102 l102 y102 z102 st102 hQ102
  subst l102 y102 z102
  obtain ⟨t103, k104, cd105, N106, vs107, rfl, Nq102, p102_0, p102_1, p102_2, p102_3, p102_4, p102_5, p102_6⟩ := hQ102
  have N102_ := Fr.app N0 Nq102
  refine Fin.byS st102 ?_
  have kp108 : Keep h0 T102.heap [a] := (Keep.refl h0 [a]).trans p102_0 (allS (Or.inl (List.mem_of_getElem? (i := 0) rfl)) all0)
  show Fin _ _ _ _ _ _ _ (T102.setTop (mkF m 9 #[.val (.ref a), .val (.ref b)] []))
  exact Fin.ret (v := none) X102 (fun _ => rfl) Bd.notSynchronized (⟨t103, k104, cd105, N106, vs107, rfl, N102_, kp108, (Nat.le_trans (Nat.le_refl _) p102_1), p102_2, p102_3, p102_4, p102_5, p102_6⟩) (by decide) (by decide) (fun fs hr => X102.returnOut hx Bd.returns (hb hby d_jdk_42_method_3_9) hr)
theorem d_jdk_43_method_49_0 : decode jdk_43_method_49_code 0 = .ok (.iconst 0, 1) := by decide +kernel
theorem d_jdk_43_method_49_1 : decode jdk_43_method_49_code 1 = .ok (.istore 5, 2) := by decide +kernel
theorem d_jdk_43_method_49_3 : decode jdk_43_method_49_code 3 = .ok (.iload 5, 2) := by decide +kernel
theorem d_jdk_43_method_49_5 : decode jdk_43_method_49_code 5 = .ok (.iload 4, 2) := by decide +kernel
theorem d_jdk_43_method_49_7 : decode jdk_43_method_49_code 7 = .ok (.if_icmp .ge 26, 3) := by decide +kernel
theorem d_jdk_43_method_49_33 : decode jdk_43_method_49_code 33 = .ok (.return_, 1) := by decide +kernel
theorem d_jdk_43_method_49_10 : decode jdk_43_method_49_code 10 = .ok (.aload_n 2, 1) := by decide +kernel
theorem d_jdk_43_method_49_11 : decode jdk_43_method_49_code 11 = .ok (.iload_n 3, 1) := by decide +kernel
theorem d_jdk_43_method_49_12 : decode jdk_43_method_49_code 12 = .ok (.iinc 3 1, 3) := by decide +kernel
theorem d_jdk_43_method_49_15 : decode jdk_43_method_49_code 15 = .ok (.aload_n 0, 1) := by decide +kernel
theorem d_jdk_43_method_49_16 : decode jdk_43_method_49_code 16 = .ok (.iload_n 1, 1) := by decide +kernel
theorem d_jdk_43_method_49_17 : decode jdk_43_method_49_code 17 = .ok (.iinc 1 1, 3) := by decide +kernel
theorem d_jdk_43_method_49_20 : decode jdk_43_method_49_code 20 = .ok (.baload, 1) := by decide +kernel
theorem d_jdk_43_method_49_21 : decode jdk_43_method_49_code 21 = .ok (.sipush 255, 3) := by decide +kernel
theorem d_jdk_43_method_49_24 : decode jdk_43_method_49_code 24 = .ok (.iand, 1) := by decide +kernel
theorem d_jdk_43_method_49_25 : decode jdk_43_method_49_code 25 = .ok (.i2c, 1) := by decide +kernel
theorem d_jdk_43_method_49_26 : decode jdk_43_method_49_code 26 = .ok (.castore, 1) := by decide +kernel
theorem d_jdk_43_method_49_27 : decode jdk_43_method_49_code 27 = .ok (.iinc 5 1, 3) := by decide +kernel
theorem d_jdk_43_method_49_30 : decode jdk_43_method_49_code 30 = .ok (.goto (-27), 3) := by decide +kernel
def Q_infg (Z : State) (t : Addr) (kb : ClassId) (N2 : Int32) (vs : List Value) (d : Addr) (kd : ClassId) (cs : List Int32) (h0 : Heap) (n0 : Nat) (vv_ : Option Value) (hh_ : Heap) (LL_ : List Loc) : Prop := vv_ = none ∧ Fr n0 LL_ ∧ Keep h0 hh_ [d] ∧ Arv Z hh_ d kd .char (Int32.ofNat cs.length) (cs.map Value.int) (.int (0 : Int32))
set_option maxRecDepth 65536 in
set_option maxHeartbeats 40000000 in
theorem rm_infg (l : Launch) (Z : State) (a0 : Array Value) (hw : ∀ d ∈ tables_1, d.before a0 Z = true) (ws : List Jvm.Cond) (t : Addr) (kb : ClassId) (N2 : Int32) (vs : List Value) (d : Addr) (kd : ClassId) (cs : List Int32) (h0 : Heap) (n0 : Nat) (Z0 : n0 ≤ h0.size) (A0 : Arv Z h0 t kb .byte N2 vs (.int 0)) (hN2 : N2 = (Int32.ofNat cs.length)) (hvs : vs = cs.map fun c => Value.int (StrChars.lo8 c)) (hlat : ∀ c ∈ cs, ¬ (255 : Int32) < c) (l5 : cs.length ≤ 5) (hb3 : ∀ c ∈ cs, ¬ c < 0 ∧ ¬ (65535 : Int32) < c) (Ad : Arv Z h0 d kd .char (Int32.ofNat cs.length) [] (.int (0 : Int32))) (gd : n0 ≤ d) (ntd : t ≠ d) :
    MetFree l (⟨"java/lang/StringLatin1", "inflate", "([BI[CII)V"⟩ : MethodName) (head1 (Jvm.Cond.code (⟨"java/lang/StringLatin1", "inflate", "([BI[CII)V"⟩ : MethodName) jdk_43_method_49_code 6 none :: ws) ({ frames := 0, cells := 0, slots := 0, locals := 0 } : Room)) (fun aa_ U => aa_ = #[(.ref t), (.int (0 : Int32)), (.ref d), (.int (0 : Int32)), (.int (Int32.ofNat cs.length))] ∧ Z.Warmed39 U.vm ∧ U.heap = h0) (fun _ _ _ _ _ => True) (fun _ U o U' => ∃ vv_ LL_, o = .returned vv_ ∧ Q_infg Z t kb N2 vs d kd cs h0 n0 vv_ U'.heap LL_ ∧ FrameEnd U o U' LL_ 0 0) := by
  refine MetFree.of_bodySF (plainFor_of_name pn_java_lang_StringLatin1) hisR ?_
  intro p e s m args below meth c s₁ Bd hml0 hP hK
  obtain ⟨rfl, hZ, hh⟩ := hP
  have hx := Bd.exec
  have hby := Bd.bytes
  have hml : c.maxLocals = 6 := hml0
  have hown : s.vm.findClass "java/lang/StringLatin1" = some m.cls := findClass_of_methodNamed Bd.named
  have hnm := (name_of_methodNamed Bd.named Bd.method).1
  have X0 : Stand p l e ({ frames := 0, cells := 0, slots := 0, locals := 0 } : Room) s m #[(.ref t), (.int (0 : Int32)), (.ref d), (.int (0 : Int32)), (.int (Int32.ofNat cs.length))] below meth c s₁ [] 0 0 := Stand.of_body Bd
  have e0 : s₁.heap = h0 := by rw [← hh, Bd.state]; rfl
  have N0 := Fr.nil n0
  have ef : entryFrame m #[(.ref t), (.int (0 : Int32)), (.ref d), (.int (0 : Int32)), (.int (Int32.ofNat cs.length))] 6 = mkF m 0 #[.val (.ref t), .val (.int (0 : Int32)), .val (.ref d), .val (.int (0 : Int32)), .val (.int (Int32.ofNat cs.length)), .unset] [] := by first | (simp [entryFrame, mkF, argsToLocals, Value.category]; done) | rfl
  refine Fin.start (Q := Q_infg Z t kb N2 vs d kd cs h0 n0) ef ?_
  refine Fin.by (fun tt_ kk_ => XS.iconst X0.here hx rfl (hb hby d_jdk_43_method_49_0) (XS.istore X0.here hx rfl (hb hby d_jdk_43_method_49_1) rfl (l' := #[.val (.ref t), .val (.int 0), .val (.ref d), .val (.int 0), .val (.int (Int32.ofNat cs.length)), .val (.int 0)]) rfl kk_)) ?_
  have J3 : ∀ fu : Nat, ∀ (T101 : State) (h102 : Heap) (lc103 : List Loc) (i : Nat) (j : Int32), Stand p l e ({ frames := 0, cells := 0, slots := 0, locals := 0 } : Room) s m #[(.ref t), (.int (0 : Int32)), (.ref d), (.int (0 : Int32)), (.int (Int32.ofNat cs.length))] below meth c T101 lc103 0 0 → T101.heap = h102 → Fr n0 lc103 → Keep h0 h102 [d] → (fu = cs.length - i) → (j = Int32.ofNat i) → (i ≤ cs.length) → (Arv Z h102 d kd .char (Int32.ofNat cs.length) ((cs.take i).map Value.int) (.int (0 : Int32))) → Fin p e below s (Q_infg Z t kb N2 vs d kd cs h0 n0) 0 0 (T101.setTop (mkF m 3 #[.val (.ref t), .val (.int j), .val (.ref d), .val (.int j), .val (.int (Int32.ofNat cs.length)), .val (.int j)] [])) := by
    intro fu
    induction fu using Nat.strongRecOn with
    | ind fu ih =>
      intro T101 h102 lc103 i j X104 e105 N106 K107 hf hj hil jA
      refine Fin.by (fun tt_ kk_ => XS.iload X104.here hx rfl (hb hby d_jdk_43_method_49_3) rfl (XS.iload X104.here hx rfl (hb hby d_jdk_43_method_49_5) rfl kk_)) ?_
      show Fin _ _ _ _ _ _ _ (T101.setTop (mkF m 7 #[.val (.ref t), .val (.int j), .val (.ref d), .val (.int j), .val (.int (Int32.ofNat cs.length)), .val (.int j)] [(.int (Int32.ofNat cs.length)), (.int j)]))
      by_cases hlt : j < (Int32.ofNat cs.length)
      · refine Fin.by (fun tt_ kk_ => XS.icmpNo X104.here hx rfl (hb hby d_jdk_43_method_49_7) rfl (tlt hlt).2.1 kk_) ?_
        have hi := own_ltof hj hlt hil (by omega)
        refine Fin.by (fun tt_ kk_ => XS.aloadN X104.here hx rfl (hb hby d_jdk_43_method_49_10) rfl rfl (XS.iloadN X104.here hx rfl (hb hby d_jdk_43_method_49_11) rfl (XS.iinc X104.here hx rfl (hb hby d_jdk_43_method_49_12) rfl (l' := #[.val (.ref t), .val (.int j), .val (.ref d), .val (.int (j + 1)), .val (.int (Int32.ofNat cs.length)), .val (.int j)]) rfl (XS.aloadN X104.here hx rfl (hb hby d_jdk_43_method_49_15) rfl rfl (XS.iloadN X104.here hx rfl (hb hby d_jdk_43_method_49_16) rfl (XS.iinc X104.here hx rfl (hb hby d_jdk_43_method_49_17) rfl (l' := #[.val (.ref t), .val (.int (j + 1)), .val (.ref d), .val (.int (j + 1)), .val (.int (Int32.ofNat cs.length)), .val (.int j)]) rfl kk_)))))) ?_
        have A110 : Arv Z h102 t kb .byte N2 vs (.int 0) := (A0.keep K107 (ninS ntd nin0))
        obtain ⟨cl111, Ar111, q111, S111, N111, H111, G111⟩ := id A110
        have hin111 : ¬ (j < 0 ∨ cl111.slots.size ≤ j.toNatClampNeg) := within hj (by rw [S111, hN2, own_cl (by omega)]; omega) (by rw [S111, hN2, own_cl (by omega)]; omega)
        refine Fin.by (fun tt_ kk_ => X104.baloadBytes hx (j := j) (v := (.int (StrChars.lo8 (cs.getD i 0)))) (by rw [e105]; exact Ar111.1) (State.isArrayOf_alike hZ.alike Ar111.2.1) Ar111.2.2 hin111 (Has.at H111 hin111 (by rw [clamp_of hj (by omega), hvs]; exact StrChars.Road.low_at _ _ _ hi)) (g := (mkF m 20 #[.val (.ref t), .val (.int (j + 1)), .val (.ref d), .val (.int (j + 1)), .val (.int (Int32.ofNat cs.length)), .val (.int j)] [(.int j), (.ref t), (.int j), (.ref d)])) rfl rfl (hb hby d_jdk_43_method_49_20) _ kk_) ?_
        refine Fin.by (fun tt_ kk_ => XS.sipush X104.here hx rfl (hb hby d_jdk_43_method_49_21) (XS.iand X104.here hx rfl (hb hby d_jdk_43_method_49_24) rfl (XS.i2c X104.here hx rfl (hb hby d_jdk_43_method_49_25) rfl kk_))) ?_
        obtain ⟨cl112, Ar112, q112, S112, N112, H112, G112⟩ := id jA
        have hin112 : ¬ (j < 0 ∨ cl112.slots.size ≤ j.toNatClampNeg) := within hj (by rw [S112, own_cl (by omega)]; exact hi) (by rw [S112, own_cl (by omega)]; omega)
        obtain ⟨T112, h112, X112, e112, W112, st112⟩ := stC X104 hx hZ e105 Ar112 (j := j) hin112 (g := (mkF m 26 #[.val (.ref t), .val (.int (j + 1)), .val (.ref d), .val (.int (j + 1)), .val (.int (Int32.ofNat cs.length)), .val (.int j)] [(.int (((StrChars.lo8 (cs.getD i 0)) &&& 255).toUInt32.toUInt16.toUInt32.toInt32)), (.int j), (.ref d)])) rfl rfl (hb hby d_jdk_43_method_49_26)
        have V112 : Arv Z h112 d kd .char (Int32.ofNat cs.length) (((cs.take i).map Value.int) ++ [(.int (nar .char (((StrChars.lo8 (cs.getD i 0)) &&& (255 : Int32)).toUInt32.toUInt16.toUInt32.toInt32)))]) (.int (0 : Int32)) := own_push Ar112 q112 S112 N112 H112 G112 (fits_nar_char _) W112 (by rw [clamp_of hj (by omega), own_tlen hil])
        refine Fin.by (fun tt_ kk_ => st112 tt_ kk_) ?_
        have N112_ := Fr.snoc X112 N106 gd
        have V113 : Arv Z h112 d kd .char (Int32.ofNat cs.length) ((cs.take (i + 1)).map Value.int) (.int (0 : Int32)) := by have q := V112; rw [own_lat1 hb3 hlat hi, own_tk1 Value.int hi] at q; exact q
        refine Fin.by (fun tt_ kk_ => XS.iinc X112.here hx rfl (hb hby d_jdk_43_method_49_27) rfl (l' := #[.val (.ref t), .val (.int (j + 1)), .val (.ref d), .val (.int (j + 1)), .val (.int (Int32.ofNat cs.length)), .val (.int (j + 1))]) rfl (XS.goto X112.here hx rfl (pc0 := 30) (pc' := 3) rfl (hb hby d_jdk_43_method_49_30) (by decide) (by decide) kk_)) ?_
        show Fin _ _ _ _ _ _ _ (T112.setTop (mkF m 3 #[.val (.ref t), .val (.int (j + 1)), .val (.ref d), .val (.int (j + 1)), .val (.int (Int32.ofNat cs.length)), .val (.int (j + 1))] []))
        have kp114 : Keep h0 h102 [d] := (Keep.refl h0 [d]).trans K107 (allS (Or.inl (List.mem_of_getElem? (i := 0) rfl)) all0)
        have kp115 : Keep h0 h112 [d] := kp114.wr W112 (Or.inl (List.mem_of_getElem? (i := 0) rfl))
        exact ih (cs.length - (i + 1)) (by omega) T112 h112 _ (i + 1) (j + (1 : Int32)) X112 e112 N112_ kp115 rfl (own_ext hj) hi V113
      · refine Fin.by (fun tt_ kk_ => XS.icmpYes X104.here hx rfl (pc0 := 7) (pc' := 33) rfl (hb hby d_jdk_43_method_49_7) rfl (flt hlt).2.1 (by decide) (by decide) kk_) ?_
        obtain rfl := own_geof hj hlt hil (by omega)
        have V108 : Arv Z h102 d kd .char (Int32.ofNat cs.length) (cs.map Value.int) (.int (0 : Int32)) := by have q := jA; rw [List.take_length] at q; exact q
        have kp109 : Keep h0 h102 [d] := (Keep.refl h0 [d]).trans K107 (allS (Or.inl (List.mem_of_getElem? (i := 0) rfl)) all0)
        show Fin _ _ _ _ _ _ _ (T101.setTop (mkF m 33 #[.val (.ref t), .val (.int j), .val (.ref d), .val (.int j), .val (.int (Int32.ofNat cs.length)), .val (.int j)] []))
        exact Fin.ret (v := none) X104 (fun _ => rfl) Bd.notSynchronized (by rw [e105]; exact ⟨rfl, N106, kp109, V108⟩) (by decide) (by decide) (fun fs hr => X104.returnOut hx Bd.returns (hb hby d_jdk_43_method_49_33) hr)
  show Fin _ _ _ _ _ _ _ (s₁.setTop (mkF m 3 #[.val (.ref t), .val (.int 0), .val (.ref d), .val (.int 0), .val (.int (Int32.ofNat cs.length)), .val (.int 0)] []))
  exact J3 (cs.length - 0) s₁ h0 _ 0 (0 : Int32) X0 e0 N0 (Keep.refl h0 [d]) rfl rfl (Nat.zero_le _) Ad
abbrev y_16 : MethodName := (⟨"java/lang/StringLatin1", "inflate", "([BI[CII)V"⟩ : MethodName)
theorem d_jdk_43_method_9_0 : decode jdk_43_method_9_code 0 = .ok (.aload_n 0, 1) := by decide +kernel
theorem d_jdk_43_method_9_1 : decode jdk_43_method_9_code 1 = .ok (.arraylength, 1) := by decide +kernel
theorem d_jdk_43_method_9_2 : decode jdk_43_method_9_code 2 = .ok (.newarray .char, 2) := by decide +kernel
theorem d_jdk_43_method_9_4 : decode jdk_43_method_9_code 4 = .ok (.astore_n 1, 1) := by decide +kernel
theorem d_jdk_43_method_9_5 : decode jdk_43_method_9_code 5 = .ok (.aload_n 0, 1) := by decide +kernel
theorem d_jdk_43_method_9_6 : decode jdk_43_method_9_code 6 = .ok (.iconst 0, 1) := by decide +kernel
theorem d_jdk_43_method_9_7 : decode jdk_43_method_9_code 7 = .ok (.aload_n 1, 1) := by decide +kernel
theorem d_jdk_43_method_9_8 : decode jdk_43_method_9_code 8 = .ok (.iconst 0, 1) := by decide +kernel
theorem d_jdk_43_method_9_9 : decode jdk_43_method_9_code 9 = .ok (.aload_n 0, 1) := by decide +kernel
theorem d_jdk_43_method_9_10 : decode jdk_43_method_9_code 10 = .ok (.arraylength, 1) := by decide +kernel
theorem pd_275 : parseMethodDescriptor "([BI[CII)V" = some ⟨[(.array .byte), .int, (.array .char), .int, .int], none⟩ := by decide +kernel
theorem d_jdk_43_method_9_11 : decode jdk_43_method_9_code 11 = .ok (.invokestatic 13, 3) := by decide +kernel
theorem d_jdk_43_method_9_14 : decode jdk_43_method_9_code 14 = .ok (.aload_n 1, 1) := by decide +kernel
theorem d_jdk_43_method_9_15 : decode jdk_43_method_9_code 15 = .ok (.areturn, 1) := by decide +kernel
def Q_tclg (Z : State) (t : Addr) (kb : ClassId) (N2 : Int32) (vs : List Value) (cs : List Int32) (h0 : Heap) (n0 : Nat) (vv_ : Option Value) (hh_ : Heap) (LL_ : List Loc) : Prop := ∃ (d : Addr), ∃ (kd : ClassId), vv_ = some (.ref d) ∧ Fr n0 LL_ ∧ Keep h0 hh_ [] ∧ h0.size ≤ d ∧ Arv Z hh_ d kd .char (Int32.ofNat cs.length) (cs.map Value.int) (.int (0 : Int32))
set_option maxRecDepth 65536 in
set_option maxHeartbeats 40000000 in
theorem rm_tclg (l : Launch) (Z : State) (a0 : Array Value) (hw : ∀ d ∈ tables_1, d.before a0 Z = true) (ws : List Jvm.Cond) (t : Addr) (kb : ClassId) (N2 : Int32) (vs : List Value) (cs : List Int32) (h0 : Heap) (n0 : Nat) (Z0 : n0 ≤ h0.size) (A0 : Arv Z h0 t kb .byte N2 vs (.int 0)) (hN2 : N2 = (Int32.ofNat cs.length)) (hvs : vs = cs.map fun c => Value.int (StrChars.lo8 c)) (hlat : ∀ c ∈ cs, ¬ (255 : Int32) < c) (l5 : cs.length ≤ 5) (hb3 : ∀ c ∈ cs, ¬ c < 0 ∧ ¬ (65535 : Int32) < c) :
    MetFree l (⟨"java/lang/StringLatin1", "toChars", "([B)[C"⟩ : MethodName) (head1 (Jvm.Cond.code (⟨"java/lang/StringLatin1", "toChars", "([B)[C"⟩ : MethodName) jdk_43_method_9_code 2 (some (.array .char)) :: ws) ({ frames := 1, cells := 1, slots := 5, locals := 17 } : Room)) (fun aa_ U => aa_ = #[(.ref t)] ∧ Z.Warmed39 U.vm ∧ U.heap = h0) (fun _ _ _ _ _ => True) (fun _ U o U' => ∃ vv_ LL_, o = .returned vv_ ∧ Q_tclg Z t kb N2 vs cs h0 n0 vv_ U'.heap LL_ ∧ FrameEnd U o U' LL_ 1 5) := by
  refine MetFree.of_bodySF (plainFor_of_name pn_java_lang_StringLatin1) hisR ?_
  intro p e s m args below meth c s₁ Bd hml0 hP hK
  obtain ⟨rfl, hZ, hh⟩ := hP
  have hx := Bd.exec
  have hby := Bd.bytes
  have hml : c.maxLocals = 2 := hml0
  have hown : s.vm.findClass "java/lang/StringLatin1" = some m.cls := findClass_of_methodNamed Bd.named
  have hnm := (name_of_methodNamed Bd.named Bd.method).1
  have X0 : Stand p l e ({ frames := 1, cells := 1, slots := 5, locals := 17 } : Room) s m #[(.ref t)] below meth c s₁ [] 0 0 := Stand.of_body Bd
  have e0 : s₁.heap = h0 := by rw [← hh, Bd.state]; rfl
  have N0 := Fr.nil n0
  have ef : entryFrame m #[(.ref t)] 2 = mkF m 0 #[.val (.ref t), .unset] [] := by first | (simp [entryFrame, mkF, argsToLocals, Value.category]; done) | rfl
  refine Fin.start (Q := Q_tclg Z t kb N2 vs cs h0 n0) ef ?_
  subst hN2
  refine Fin.by (fun tt_ kk_ => XS.aloadN X0.here hx rfl (hb hby d_jdk_43_method_9_0) rfl rfl kk_) ?_
  obtain ⟨cl101, Ar101, q101, S101, N101, H101, G101⟩ := id A0
  refine Fin.by (fun tt_ kk_ => X0.arraylength hx (by rw [e0]; exact Ar101.1) (State.isArrayOf_alike hZ.alike Ar101.2.1) (g := (mkF m 1 #[.val (.ref t), .unset] [(.ref t)])) rfl rfl (hb hby d_jdk_43_method_9_1) _ kk_) ?_
  rw [len_of S101 N101]
  obtain ⟨T102, h102, k102, X102, e102, E102, A102, st102⟩ := newP X0 hx hZ (w_ hw 9 rfl) e0 (g := (mkF m 2 #[.val (.ref t), .unset] [(.int (Int32.ofNat cs.length))])) rfl (hb hby d_jdk_43_method_9_2) rfl (own_notlt (by omega)) (cap := 5) (by rw [own_cl (by omega)]; omega) (by decide) (by decide) (by decide)
  obtain ⟨a102, g102⟩ : ∃ z, z = h0.size := ⟨_, rfl⟩
  rw [← g102] at A102 st102
  refine Fin.by (fun tt_ kk_ => st102 tt_ kk_) ?_
  have V102 : Arv Z h102 a102 k102 .char (Int32.ofNat cs.length) [] (.int (0 : Int32)) := Arv.new A102 (own_notlt (by omega))
  refine Fin.by (fun tt_ kk_ => XS.astoreN X102.here hx rfl (hb hby d_jdk_43_method_9_4) rfl rfl (l' := #[.val (.ref t), .val (.ref a102)]) rfl (XS.aloadN X102.here hx rfl (hb hby d_jdk_43_method_9_5) rfl rfl (XS.iconst X102.here hx rfl (hb hby d_jdk_43_method_9_6) (XS.aloadN X102.here hx rfl (hb hby d_jdk_43_method_9_7) rfl rfl (XS.iconst X102.here hx rfl (hb hby d_jdk_43_method_9_8) (XS.aloadN X102.here hx rfl (hb hby d_jdk_43_method_9_9) rfl rfl kk_)))))) ?_
  have A103 : Arv Z h102 t kb .byte (Int32.ofNat cs.length) vs (.int 0) := (A0.ext E102)
  obtain ⟨cl104, Ar104, q104, S104, N104, H104, G104⟩ := id A103
  refine Fin.by (fun tt_ kk_ => X102.arraylength hx (by rw [e102]; exact Ar104.1) (State.isArrayOf_alike hZ.alike Ar104.2.1) (g := (mkF m 10 #[.val (.ref t), .val (.ref a102)] [(.ref t), (.int 0), (.ref a102), (.int 0), (.ref t)])) rfl rfl (hb hby d_jdk_43_method_9_10) _ kk_) ?_
  rw [len_of S104 N104]
  have g105 : n0 ≤ a102 := Nat.le_trans Z0 (Nat.le_of_eq g102.symm)
  have ne106 : t ≠ a102 := Nat.ne_of_lt (Nat.lt_of_lt_of_le A0.lt (Nat.le_of_eq g102.symm))
  have z107 : n0 ≤ h102.size := Nat.le_trans Z0 E102.1
  obtain ⟨v108, _, ⟨T108, L108, k108, n108⟩, -, X108, ⟨Lc108, hQ108, l108, y108, z108⟩, st108⟩ := Jvm.LawKit.callS X102 hx (y := y_16) hown (mvT hZ (w_ hw 47 rfl)) (mvT hZ (w_ hw 48 rfl)) (mvT hZ (w_ hw 45 rfl)) (mvT hZ (w_ hw 49 rfl)) (by decide) (backOf (W := 0) (rm_infg l Z a0 hw [] t kb (Int32.ofNat cs.length) (vs : List Value) a102 k102 cs h102 n0 z107 A103 rfl hvs hlat l5 hb3 V102 g105 ne106) hZ (w_ hw 49 rfl) (w_ hw 45 rfl) (by decide) (by decide)) (g := (mkF m 11 #[.val (.ref t), .val (.ref a102)] [(.int (Int32.ofNat cs.length)), (.int 0), (.ref a102), (.int 0), (.ref t)])) rfl (by rw [hml]; rfl) (argsL := [(.ref t), (.int 0), (.ref a102), (.int 0), (.int (Int32.ofNat cs.length))]) (rest := []) (lenOf pd_275 rfl) rfl (by show 2 * 0 + _ ≤ _; exact Nat.le_of_eq rfl) (hb hby d_jdk_43_method_9_11) (fun _ _ => ⟨rfl, e102, (by decide : 1 + 0 ≤ _), (by decide : 5 + 0 ≤ _)⟩)
  dsimp only [Pt.U, Pt.locs, Pt.cells, Pt.slots] at X108 l108 y108 z108 st108 hQ108
  subst l108 y108 z108
  obtain ⟨rfl, Nq108, p108_0, p108_1⟩ := hQ108
  have N108_ := Fr.app N0 Nq108
  refine Fin.by (fun tt_ kk_ => st108 tt_ kk_) ?_
  refine Fin.by (fun tt_ kk_ => XS.aloadN X108.here hx rfl (hb hby d_jdk_43_method_9_14) rfl rfl kk_) ?_
  have kp109 : Keep h0 h102 [] := (Keep.refl h0 []).ext E102
  have kp110 : Keep h0 T108.heap [] := kp109.trans p108_0 (allS (Or.inr (Nat.le_trans (Nat.le_refl _) (Nat.le_of_eq g102.symm))) all0)
  show Fin _ _ _ _ _ _ _ (T108.setTop (mkF m 15 #[.val (.ref t), .val (.ref a102)] [(.ref a102)]))
  exact Fin.ret (v := some (.ref a102)) X108 (fun h => by rw [Bd.returns] at h; cases h) Bd.notSynchronized (⟨a102, k102, rfl, N108_, kp110, (Nat.le_trans (Nat.le_refl _) (Nat.le_of_eq g102.symm)), p108_1⟩) (by decide) (by decide) (fun fs hr => retA X108 hx Bd.returns rfl rfl (hb hby d_jdk_43_method_9_15) hr)
theorem d_jdk_41_method_13_0 : decode jdk_41_method_13_code 0 = .ok (.iload_n 2, 1) := by decide +kernel
theorem d_jdk_41_method_13_1 : decode jdk_41_method_13_code 1 = .ok (.iload_n 0, 1) := by decide +kernel
theorem d_jdk_41_method_13_2 : decode jdk_41_method_13_code 2 = .ok (.ior, 1) := by decide +kernel
theorem d_jdk_41_method_13_3 : decode jdk_41_method_13_code 3 = .ok (.iload_n 1, 1) := by decide +kernel
theorem d_jdk_41_method_13_4 : decode jdk_41_method_13_code 4 = .ok (.ior, 1) := by decide +kernel
theorem d_jdk_41_method_13_5 : decode jdk_41_method_13_code 5 = .ok (.ifCond .lt 10, 3) := by decide +kernel
theorem d_jdk_41_method_13_8 : decode jdk_41_method_13_code 8 = .ok (.iload_n 1, 1) := by decide +kernel
theorem d_jdk_41_method_13_9 : decode jdk_41_method_13_code 9 = .ok (.iload_n 2, 1) := by decide +kernel
theorem d_jdk_41_method_13_10 : decode jdk_41_method_13_code 10 = .ok (.iload_n 0, 1) := by decide +kernel
theorem d_jdk_41_method_13_11 : decode jdk_41_method_13_code 11 = .ok (.isub, 1) := by decide +kernel
theorem d_jdk_41_method_13_12 : decode jdk_41_method_13_code 12 = .ok (.if_icmp .le 11, 3) := by decide +kernel
theorem d_jdk_41_method_13_23 : decode jdk_41_method_13_code 23 = .ok (.iload_n 0, 1) := by decide +kernel
theorem d_jdk_41_method_13_24 : decode jdk_41_method_13_code 24 = .ok (.ireturn, 1) := by decide +kernel
def Q_cfig (Z : State) (n : Nat) (v : Value) (h0 : Heap) (n0 : Nat) (vv_ : Option Value) (hh_ : Heap) (LL_ : List Loc) : Prop := vv_ = some (.int (0 : Int32)) ∧ Fr n0 LL_ ∧ hh_ = h0
set_option maxRecDepth 65536 in
set_option maxHeartbeats 40000000 in
theorem rm_cfig (l : Launch) (Z : State) (a0 : Array Value) (hw : ∀ d ∈ tables_1, d.before a0 Z = true) (ws : List Jvm.Cond) (n : Nat) (v : Value) (h0 : Heap) (n0 : Nat) (Z0 : n0 ≤ h0.size) (l5 : n ≤ 5) (rv : v.isRef = true) :
    MetFree l (⟨"jdk/internal/util/Preconditions", "checkFromIndexSize", "(IIILjava/util/function/BiFunction;)I"⟩ : MethodName) (head1 (Jvm.Cond.code (⟨"jdk/internal/util/Preconditions", "checkFromIndexSize", "(IIILjava/util/function/BiFunction;)I"⟩ : MethodName) jdk_41_method_13_code 4 (some .int) :: ws) ({ frames := 0, cells := 0, slots := 0, locals := 0 } : Room)) (fun aa_ U => aa_ = #[(.int (0 : Int32)), (.int (Int32.ofNat n - (0 : Int32))), (.int (Int32.ofNat n)), v] ∧ Z.Warmed39 U.vm ∧ U.heap = h0) (fun _ _ _ _ _ => True) (fun _ U o U' => ∃ vv_ LL_, o = .returned vv_ ∧ Q_cfig Z n v h0 n0 vv_ U'.heap LL_ ∧ FrameEnd U o U' LL_ 0 0) := by
  refine MetFree.of_bodySF (plainFor_of_name pn_jdk_internal_util_Preconditions) hisR ?_
  intro p e s m args below meth c s₁ Bd hml0 hP hK
  obtain ⟨rfl, hZ, hh⟩ := hP
  have hx := Bd.exec
  have hby := Bd.bytes
  have hml : c.maxLocals = 4 := hml0
  have hown : s.vm.findClass "jdk/internal/util/Preconditions" = some m.cls := findClass_of_methodNamed Bd.named
  have hnm := (name_of_methodNamed Bd.named Bd.method).1
  have X0 : Stand p l e ({ frames := 0, cells := 0, slots := 0, locals := 0 } : Room) s m #[(.int (0 : Int32)), (.int (Int32.ofNat n - (0 : Int32))), (.int (Int32.ofNat n)), v] below meth c s₁ [] 0 0 := Stand.of_body Bd
  have e0 : s₁.heap = h0 := by rw [← hh, Bd.state]; rfl
  have N0 := Fr.nil n0
  have ef : entryFrame m #[(.int (0 : Int32)), (.int (Int32.ofNat n - (0 : Int32))), (.int (Int32.ofNat n)), v] 4 = mkF m 0 #[.val (.int (0 : Int32)), .val (.int (Int32.ofNat n - (0 : Int32))), .val (.int (Int32.ofNat n)), .val v] [] := by first | (simp [entryFrame, mkF, argsToLocals, Value.category]; done) | rfl | (rcases ref_cases rv with rfl | ⟨_, rfl⟩ <;> simp [entryFrame, mkF, argsToLocals, Value.category])
  refine Fin.start (Q := Q_cfig Z n v h0 n0) ef ?_
  refine Fin.by (fun tt_ kk_ => XS.iloadN X0.here hx rfl (hb hby d_jdk_41_method_13_0) rfl (XS.iloadN X0.here hx rfl (hb hby d_jdk_41_method_13_1) rfl (XS.ior X0.here hx rfl (hb hby d_jdk_41_method_13_2) rfl (XS.iloadN X0.here hx rfl (hb hby d_jdk_41_method_13_3) rfl (XS.ior X0.here hx rfl (hb hby d_jdk_41_method_13_4) rfl kk_))))) ?_
  show Fin _ _ _ _ _ _ _ (s₁.setTop (mkF m 5 #[.val (.int 0), .val (.int (Int32.ofNat n - 0)), .val (.int (Int32.ofNat n)), .val v] [(.int (((Int32.ofNat n) ||| 0) ||| (Int32.ofNat n - 0)))]))
  refine Fin.by (fun tt_ kk_ => XS.ifNo X0.here hx rfl (hb hby d_jdk_41_method_13_5) rfl ((if0 _ _).trans (flt ((own_cbo _ (by omega)).1 : ¬ (((Int32.ofNat n) ||| (0 : Int32)) ||| (Int32.ofNat n - (0 : Int32))) < (0 : Int32))).1) kk_) ?_
  refine Fin.by (fun tt_ kk_ => XS.iloadN X0.here hx rfl (hb hby d_jdk_41_method_13_8) rfl (XS.iloadN X0.here hx rfl (hb hby d_jdk_41_method_13_9) rfl (XS.iloadN X0.here hx rfl (hb hby d_jdk_41_method_13_10) rfl (XS.isub X0.here hx rfl (hb hby d_jdk_41_method_13_11) rfl kk_)))) ?_
  show Fin _ _ _ _ _ _ _ (s₁.setTop (mkF m 12 #[.val (.int 0), .val (.int (Int32.ofNat n - 0)), .val (.int (Int32.ofNat n)), .val v] [(.int ((Int32.ofNat n) - 0)), (.int (Int32.ofNat n - 0))]))
  refine Fin.by (fun tt_ kk_ => XS.icmpYes X0.here hx rfl (pc0 := 12) (pc' := 23) rfl (hb hby d_jdk_41_method_13_12) rfl (flt ((own_cbo _ (by omega)).2 : ¬ ((Int32.ofNat n) - (0 : Int32)) < (Int32.ofNat n - (0 : Int32)))).2.2.2 (by decide) (by decide) kk_) ?_
  refine Fin.by (fun tt_ kk_ => XS.iloadN X0.here hx rfl (hb hby d_jdk_41_method_13_23) rfl kk_) ?_
  show Fin _ _ _ _ _ _ _ (s₁.setTop (mkF m 24 #[.val (.int 0), .val (.int (Int32.ofNat n - 0)), .val (.int (Int32.ofNat n)), .val v] [(.int 0)]))
  exact Fin.ret (v := some (.int (0 : Int32))) X0 (fun h => by rw [Bd.returns] at h; cases h) Bd.notSynchronized (by rw [e0]; exact ⟨rfl, N0, rfl⟩) (by decide) (by decide) (fun fs hr => retI X0 hx Bd.returns (hb hby d_jdk_41_method_13_24) hr)
abbrev y_17 : MethodName := (⟨"jdk/internal/util/Preconditions", "checkFromIndexSize", "(IIILjava/util/function/BiFunction;)I"⟩ : MethodName)
theorem d_jdk_42_method_157_0 : decode jdk_42_method_157_code 0 = .ok (.iload_n 0, 1) := by decide +kernel
theorem d_jdk_42_method_157_1 : decode jdk_42_method_157_code 1 = .ok (.iload_n 1, 1) := by decide +kernel
theorem d_jdk_42_method_157_2 : decode jdk_42_method_157_code 2 = .ok (.iload_n 2, 1) := by decide +kernel
theorem d_jdk_42_method_157_3 : decode jdk_42_method_157_code 3 = .ok (.getstatic 1053, 3) := by decide +kernel
theorem pd_296 : parseMethodDescriptor "(IIILjava/util/function/BiFunction;)I" = some ⟨[.int, .int, .int, (.object "java/util/function/BiFunction")], some .int⟩ := by decide +kernel
theorem d_jdk_42_method_157_6 : decode jdk_42_method_157_code 6 = .ok (.invokestatic 1065, 3) := by decide +kernel
theorem d_jdk_42_method_157_9 : decode jdk_42_method_157_code 9 = .ok (.ireturn, 1) := by decide +kernel
def Q_cbsg (Z : State) (n : Nat) (G9 : Value) (h0 : Heap) (n0 : Nat) (vv_ : Option Value) (hh_ : Heap) (LL_ : List Loc) : Prop := vv_ = some (.int (0 : Int32)) ∧ Fr n0 LL_ ∧ hh_ = h0
set_option maxRecDepth 65536 in
set_option maxHeartbeats 40000000 in
theorem rm_cbsg (l : Launch) (Z : State) (a0 : Array Value) (hw : ∀ d ∈ tables_1, d.before a0 Z = true) (ws : List Jvm.Cond) (n : Nat) (G9 : Value) (h0 : Heap) (n0 : Nat) (Z0 : n0 ≤ h0.size) (l5 : n ≤ 5) (S9 : Sta Z Z.heap "jdk/internal/util/Preconditions" "SIOOBE_FORMATTER" "Ljava/util/function/BiFunction;" G9) (r9 : G9.isRef = true) (OL : Old Z n0 h0) :
    MetFree l (⟨"java/lang/String", "checkBoundsOffCount", "(III)I"⟩ : MethodName) (head1 (Jvm.Cond.code (⟨"java/lang/String", "checkBoundsOffCount", "(III)I"⟩ : MethodName) jdk_42_method_157_code 3 (some .int) :: ws) ({ frames := 1, cells := 0, slots := 0, locals := 15 } : Room)) (fun aa_ U => aa_ = #[(.int (0 : Int32)), (.int (Int32.ofNat n - (0 : Int32))), (.int (Int32.ofNat n))] ∧ Z.Warmed39 U.vm ∧ U.heap = h0) (fun _ _ _ _ _ => True) (fun _ U o U' => ∃ vv_ LL_, o = .returned vv_ ∧ Q_cbsg Z n G9 h0 n0 vv_ U'.heap LL_ ∧ FrameEnd U o U' LL_ 0 0) := by
  refine MetFree.of_bodySF (plainFor_of_name pn_java_lang_String) hisR ?_
  intro p e s m args below meth c s₁ Bd hml0 hP hK
  obtain ⟨rfl, hZ, hh⟩ := hP
  have hx := Bd.exec
  have hby := Bd.bytes
  have hml : c.maxLocals = 3 := hml0
  have hown : s.vm.findClass "java/lang/String" = some m.cls := findClass_of_methodNamed Bd.named
  have hnm := (name_of_methodNamed Bd.named Bd.method).1
  have X0 : Stand p l e ({ frames := 1, cells := 0, slots := 0, locals := 15 } : Room) s m #[(.int (0 : Int32)), (.int (Int32.ofNat n - (0 : Int32))), (.int (Int32.ofNat n))] below meth c s₁ [] 0 0 := Stand.of_body Bd
  have e0 : s₁.heap = h0 := by rw [← hh, Bd.state]; rfl
  have N0 := Fr.nil n0
  have ef : entryFrame m #[(.int (0 : Int32)), (.int (Int32.ofNat n - (0 : Int32))), (.int (Int32.ofNat n))] 3 = mkF m 0 #[.val (.int (0 : Int32)), .val (.int (Int32.ofNat n - (0 : Int32))), .val (.int (Int32.ofNat n))] [] := by first | (simp [entryFrame, mkF, argsToLocals, Value.category]; done) | rfl
  refine Fin.start (Q := Q_cbsg Z n G9 h0 n0) ef ?_
  refine Fin.by (fun tt_ kk_ => XS.iloadN X0.here hx rfl (hb hby d_jdk_42_method_157_0) rfl (XS.iloadN X0.here hx rfl (hb hby d_jdk_42_method_157_1) rfl (XS.iloadN X0.here hx rfl (hb hby d_jdk_42_method_157_2) rfl kk_))) ?_
  obtain ⟨T101, X101, e101, st101⟩ := getS X0 hx hZ (host := "") hown (w_ hw 86 rfl) Via.refl e0 (S9.ext OL.2) (g := (mkF m 3 #[.val (.int 0), .val (.int (Int32.ofNat n - 0)), .val (.int (Int32.ofNat n))] [(.int (Int32.ofNat n)), (.int (Int32.ofNat n - 0)), (.int 0)])) rfl (hb hby d_jdk_42_method_157_3)
  refine Fin.by (fun tt_ kk_ => st101 tt_ kk_) ?_
  obtain ⟨v102, _, ⟨T102, L102, k102, n102⟩, -, X102, ⟨Lc102, hQ102, l102, y102, z102⟩, st102⟩ := Jvm.LawKit.callS X101 hx (y := y_17) hown (mvT hZ (w_ hw 128 rfl)) (mvT hZ (w_ hw 129 rfl)) (mvT hZ (w_ hw 87 rfl)) (mvT hZ (w_ hw 130 rfl)) (by decide) (backOf (W := 0) (rm_cfig l Z a0 hw [] n G9 h0 n0 Z0 l5 r9) hZ (w_ hw 130 rfl) (w_ hw 87 rfl) (by decide) (by decide)) (g := (mkF m 6 #[.val (.int 0), .val (.int (Int32.ofNat n - 0)), .val (.int (Int32.ofNat n))] [G9, (.int (Int32.ofNat n)), (.int (Int32.ofNat n - 0)), (.int 0)])) rfl (by rw [hml]; rfl) (argsL := [(.int 0), (.int (Int32.ofNat n - 0)), (.int (Int32.ofNat n)), G9]) (rest := []) (lenOf pd_296 rfl) rfl (by show 2 * 0 + _ ≤ _; exact Nat.le_of_eq rfl) (hb hby d_jdk_42_method_157_6) (fun _ _ => ⟨rfl, e101, (by decide : 0 + 0 ≤ _), (by decide : 0 + 0 ≤ _)⟩)
  dsimp only [Pt.U, Pt.locs, Pt.cells, Pt.slots] at X102 l102 y102 z102 st102 hQ102
  subst l102 y102 z102
  obtain ⟨rfl, Nq102, e102_⟩ := hQ102
  have N102_ := Fr.app N0 Nq102
  refine Fin.by (fun tt_ kk_ => st102 tt_ kk_) ?_
  have e102 := e102_
  show Fin _ _ _ _ _ _ _ (T102.setTop (mkF m 9 #[.val (.int 0), .val (.int (Int32.ofNat n - 0)), .val (.int (Int32.ofNat n))] [(.int 0)]))
  exact Fin.ret (v := some (.int (0 : Int32))) X102 (fun h => by rw [Bd.returns] at h; cases h) Bd.notSynchronized (by rw [e102]; exact ⟨rfl, N102_, rfl⟩) (by decide) (by decide) (fun fs hr => retI X102 hx Bd.returns (hb hby d_jdk_42_method_157_9) hr)
abbrev y_18 : MethodName := (⟨"java/lang/String", "checkBoundsOffCount", "(III)I"⟩ : MethodName)
theorem d_jdk_52_method_94_0 : decode jdk_52_method_94_code 0 = .ok (.iload_n 0, 1) := by decide +kernel
theorem d_jdk_52_method_94_1 : decode jdk_52_method_94_code 1 = .ok (.iload_n 1, 1) := by decide +kernel
theorem d_jdk_52_method_94_2 : decode jdk_52_method_94_code 2 = .ok (.aload_n 2, 1) := by decide +kernel
theorem d_jdk_52_method_94_3 : decode jdk_52_method_94_code 3 = .ok (.invokestatic 48, 3) := by decide +kernel
theorem pd_303 : parseMethodDescriptor "(III)I" = some ⟨[.int, .int, .int], some .int⟩ := by decide +kernel
theorem d_jdk_52_method_94_6 : decode jdk_52_method_94_code 6 = .ok (.invokestatic 419, 3) := by decide +kernel
theorem d_jdk_52_method_94_9 : decode jdk_52_method_94_code 9 = .ok (.pop, 1) := by decide +kernel
theorem d_jdk_52_method_94_10 : decode jdk_52_method_94_code 10 = .ok (.return_, 1) := by decide +kernel
def Q_cbug (Z : State) (t : Addr) (kb : ClassId) (cs : List Int32) (G9 : Value) (h0 : Heap) (n0 : Nat) (vv_ : Option Value) (hh_ : Heap) (LL_ : List Loc) : Prop := vv_ = none ∧ Fr n0 LL_ ∧ hh_ = h0
set_option maxRecDepth 65536 in
set_option maxHeartbeats 40000000 in
theorem rm_cbug (l : Launch) (Z : State) (a0 : Array Value) (hw : ∀ d ∈ tables_1, d.before a0 Z = true) (ws : List Jvm.Cond) (t : Addr) (kb : ClassId) (cs : List Int32) (G9 : Value) (h0 : Heap) (n0 : Nat) (Z0 : n0 ≤ h0.size) (A0 : Arv Z h0 t kb .byte (Int32.ofNat (2 * cs.length)) (StrChars.Road.wideBytes cs) (.int 0)) (l5 : cs.length ≤ 5) (S9 : Sta Z Z.heap "jdk/internal/util/Preconditions" "SIOOBE_FORMATTER" "Ljava/util/function/BiFunction;" G9) (r9 : G9.isRef = true) (OL : Old Z n0 h0) :
    MetFree l (⟨"java/lang/StringUTF16", "checkBoundsOffCount", "(II[B)V"⟩ : MethodName) (head1 (Jvm.Cond.code (⟨"java/lang/StringUTF16", "checkBoundsOffCount", "(II[B)V"⟩ : MethodName) jdk_52_method_94_code 3 none :: ws) ({ frames := 2, cells := 0, slots := 0, locals := 29 } : Room)) (fun aa_ U => aa_ = #[(.int (0 : Int32)), (.int ((Int32.ofNat cs.length) - (0 : Int32))), (.ref t)] ∧ Z.Warmed39 U.vm ∧ U.heap = h0) (fun _ _ _ _ _ => True) (fun _ U o U' => ∃ vv_ LL_, o = .returned vv_ ∧ Q_cbug Z t kb cs G9 h0 n0 vv_ U'.heap LL_ ∧ FrameEnd U o U' LL_ 0 0) := by
  refine MetFree.of_bodySF (plainFor_of_name pn_java_lang_StringUTF16) hisR ?_
  intro p e s m args below meth c s₁ Bd hml0 hP hK
  obtain ⟨rfl, hZ, hh⟩ := hP
  have hx := Bd.exec
  have hby := Bd.bytes
  have hml : c.maxLocals = 3 := hml0
  have hown : s.vm.findClass "java/lang/StringUTF16" = some m.cls := findClass_of_methodNamed Bd.named
  have hnm := (name_of_methodNamed Bd.named Bd.method).1
  have X0 : Stand p l e ({ frames := 2, cells := 0, slots := 0, locals := 29 } : Room) s m #[(.int (0 : Int32)), (.int ((Int32.ofNat cs.length) - (0 : Int32))), (.ref t)] below meth c s₁ [] 0 0 := Stand.of_body Bd
  have e0 : s₁.heap = h0 := by rw [← hh, Bd.state]; rfl
  have N0 := Fr.nil n0
  have ef : entryFrame m #[(.int (0 : Int32)), (.int ((Int32.ofNat cs.length) - (0 : Int32))), (.ref t)] 3 = mkF m 0 #[.val (.int (0 : Int32)), .val (.int ((Int32.ofNat cs.length) - (0 : Int32))), .val (.ref t)] [] := by first | (simp [entryFrame, mkF, argsToLocals, Value.category]; done) | rfl
  refine Fin.start (Q := Q_cbug Z t kb cs G9 h0 n0) ef ?_
  refine Fin.by (fun tt_ kk_ => XS.iloadN X0.here hx rfl (hb hby d_jdk_52_method_94_0) rfl (XS.iloadN X0.here hx rfl (hb hby d_jdk_52_method_94_1) rfl (XS.aloadN X0.here hx rfl (hb hby d_jdk_52_method_94_2) rfl rfl kk_))) ?_
  obtain ⟨v101, _, ⟨T101, L101, k101, n101⟩, -, X101, ⟨Lc101, hQ101, l101, y101, z101⟩, st101⟩ := Jvm.LawKit.callS X0 hx (y := y_2) hown (mvT hZ (w_ hw 122 rfl)) (mvT hZ (w_ hw 123 rfl)) (mvT hZ (w_ hw 64 rfl)) (mvT hZ (w_ hw 124 rfl)) (by decide) (backOf (W := 2) (rm_ule l Z a0 hw [] t kb (Int32.ofNat (2 * cs.length)) ((StrChars.Road.wideBytes cs) : List Value) h0 n0 Z0 A0) hZ (w_ hw 124 rfl) (w_ hw 64 rfl) (by decide) (by decide)) (g := (mkF m 3 #[.val (.int 0), .val (.int ((Int32.ofNat cs.length) - 0)), .val (.ref t)] [(.ref t), (.int ((Int32.ofNat cs.length) - 0)), (.int 0)])) rfl (by rw [hml]; rfl) (argsL := [(.ref t)]) (rest := [(.int ((Int32.ofNat cs.length) - 0)), (.int 0)]) (lenOf pd_37 rfl) rfl (by show 2 * 0 + _ ≤ _; exact Nat.le_of_eq rfl) (hb hby d_jdk_52_method_94_3) (fun _ _ => ⟨rfl, e0, (by decide : 0 + 0 ≤ _), (by decide : 0 + 0 ≤ _)⟩)
  dsimp only [Pt.U, Pt.locs, Pt.cells, Pt.slots] at X101 l101 y101 z101 st101 hQ101
  subst l101 y101 z101
  obtain ⟨rfl, Nq101, e101_⟩ := hQ101
  have N101_ := Fr.app N0 Nq101
  refine Fin.by (fun tt_ kk_ => st101 tt_ kk_) ?_
  have e101 := e101_
  rw [StrChars.shr1 (by omega)]
  obtain ⟨v102, _, ⟨T102, L102, k102, n102⟩, -, X102, ⟨Lc102, hQ102, l102, y102, z102⟩, st102⟩ := Jvm.LawKit.callS X101 hx (y := y_18) hown (mvT hZ (w_ hw 125 rfl)) (mvT hZ (w_ hw 126 rfl)) (mvT hZ (w_ hw 8 rfl)) (mvT hZ (w_ hw 127 rfl)) (by decide) (backOf (W := 0) (rm_cbsg l Z a0 hw [] cs.length G9 h0 n0 Z0 l5 S9 r9 OL) hZ (w_ hw 127 rfl) (w_ hw 8 rfl) (by decide) (by decide)) (g := (mkF m 6 #[.val (.int 0), .val (.int ((Int32.ofNat cs.length) - 0)), .val (.ref t)] [(.int (Int32.ofNat cs.length)), (.int ((Int32.ofNat cs.length) - 0)), (.int 0)])) rfl (by rw [hml]; rfl) (argsL := [(.int 0), (.int ((Int32.ofNat cs.length) - 0)), (.int (Int32.ofNat cs.length))]) (rest := []) (lenOf pd_303 rfl) rfl (by show 2 * 0 + _ ≤ _; exact Nat.le_of_eq rfl) (hb hby d_jdk_52_method_94_6) (fun _ _ => ⟨rfl, e101, (by decide : 0 + 0 ≤ _), (by decide : 0 + 0 ≤ _)⟩)
  dsimp only [Pt.U, Pt.locs, Pt.cells, Pt.slots] at X102 l102 y102 z102 st102 hQ102
  subst l102 y102 z102
  obtain ⟨rfl, Nq102, e102_⟩ := hQ102
  have N102_ := Fr.app N101_ Nq102
  refine Fin.by (fun tt_ kk_ => st102 tt_ kk_) ?_
  have e102 := e102_
  refine Fin.by (fun tt_ kk_ => XS.pop X102.here hx rfl (hb hby d_jdk_52_method_94_9) rfl rfl kk_) ?_
  show Fin _ _ _ _ _ _ _ (T102.setTop (mkF m 10 #[.val (.int 0), .val (.int ((Int32.ofNat cs.length) - 0)), .val (.ref t)] []))
  exact Fin.ret (v := none) X102 (fun _ => rfl) Bd.notSynchronized (by rw [e102]; exact ⟨rfl, N102_, rfl⟩) (by decide) (by decide) (fun fs hr => X102.returnOut hx Bd.returns (hb hby d_jdk_52_method_94_10) hr)
abbrev y_19 : MethodName := (⟨"java/lang/StringUTF16", "checkBoundsOffCount", "(II[B)V"⟩ : MethodName)
theorem d_jdk_52_method_26_0 : decode jdk_52_method_26_code 0 = .ok (.iload_n 1, 1) := by decide +kernel
theorem d_jdk_52_method_26_1 : decode jdk_52_method_26_code 1 = .ok (.iload_n 2, 1) := by decide +kernel
theorem d_jdk_52_method_26_2 : decode jdk_52_method_26_code 2 = .ok (.if_icmp .ge 11, 3) := by decide +kernel
theorem d_jdk_52_method_26_5 : decode jdk_52_method_26_code 5 = .ok (.iload_n 1, 1) := by decide +kernel
theorem d_jdk_52_method_26_6 : decode jdk_52_method_26_code 6 = .ok (.iload_n 2, 1) := by decide +kernel
theorem d_jdk_52_method_26_7 : decode jdk_52_method_26_code 7 = .ok (.iload_n 1, 1) := by decide +kernel
theorem d_jdk_52_method_26_8 : decode jdk_52_method_26_code 8 = .ok (.isub, 1) := by decide +kernel
theorem d_jdk_52_method_26_9 : decode jdk_52_method_26_code 9 = .ok (.aload_n 0, 1) := by decide +kernel
theorem pd_315 : parseMethodDescriptor "(II[B)V" = some ⟨[.int, .int, (.array .byte)], none⟩ := by decide +kernel
theorem d_jdk_52_method_26_10 : decode jdk_52_method_26_code 10 = .ok (.invokestatic 173, 3) := by decide +kernel
theorem d_jdk_52_method_26_13 : decode jdk_52_method_26_code 13 = .ok (.iload_n 1, 1) := by decide +kernel
theorem d_jdk_52_method_26_14 : decode jdk_52_method_26_code 14 = .ok (.istore 5, 2) := by decide +kernel
theorem d_jdk_52_method_26_16 : decode jdk_52_method_26_code 16 = .ok (.iload 5, 2) := by decide +kernel
theorem d_jdk_52_method_26_18 : decode jdk_52_method_26_code 18 = .ok (.iload_n 2, 1) := by decide +kernel
theorem d_jdk_52_method_26_19 : decode jdk_52_method_26_code 19 = .ok (.if_icmp .ge 22, 3) := by decide +kernel
theorem d_jdk_52_method_26_41 : decode jdk_52_method_26_code 41 = .ok (.return_, 1) := by decide +kernel
theorem d_jdk_52_method_26_22 : decode jdk_52_method_26_code 22 = .ok (.aload_n 3, 1) := by decide +kernel
theorem d_jdk_52_method_26_23 : decode jdk_52_method_26_code 23 = .ok (.iload 4, 2) := by decide +kernel
theorem d_jdk_52_method_26_25 : decode jdk_52_method_26_code 25 = .ok (.iinc 4 1, 3) := by decide +kernel
theorem d_jdk_52_method_26_28 : decode jdk_52_method_26_code 28 = .ok (.aload_n 0, 1) := by decide +kernel
theorem d_jdk_52_method_26_29 : decode jdk_52_method_26_code 29 = .ok (.iload 5, 2) := by decide +kernel
theorem d_jdk_52_method_26_31 : decode jdk_52_method_26_code 31 = .ok (.invokestatic 71, 3) := by decide +kernel
theorem d_jdk_52_method_26_34 : decode jdk_52_method_26_code 34 = .ok (.castore, 1) := by decide +kernel
theorem d_jdk_52_method_26_35 : decode jdk_52_method_26_code 35 = .ok (.iinc 5 1, 3) := by decide +kernel
theorem d_jdk_52_method_26_38 : decode jdk_52_method_26_code 38 = .ok (.goto (-22), 3) := by decide +kernel
def Q_gchg (Z : State) (t : Addr) (kb : ClassId) (cs : List Int32) (d : Addr) (kd : ClassId) (G9 : Value) (h0 : Heap) (n0 : Nat) (vv_ : Option Value) (hh_ : Heap) (LL_ : List Loc) : Prop := vv_ = none ∧ Fr n0 LL_ ∧ Keep h0 hh_ [d] ∧ Arv Z hh_ d kd .char (Int32.ofNat cs.length) (cs.map Value.int) (.int (0 : Int32))
set_option maxRecDepth 65536 in
set_option maxHeartbeats 40000000 in
theorem rm_gchg (l : Launch) (Z : State) (a0 : Array Value) (hw : ∀ d ∈ tables_1, d.before a0 Z = true) (ws : List Jvm.Cond) (t : Addr) (kb : ClassId) (cs : List Int32) (d : Addr) (kd : ClassId) (G9 : Value) (h0 : Heap) (n0 : Nat) (Z0 : n0 ≤ h0.size) (A0 : Arv Z h0 t kb .byte (Int32.ofNat (2 * cs.length)) (StrChars.Road.wideBytes cs) (.int 0)) (l5 : cs.length ≤ 5) (hb3 : ∀ c ∈ cs, ¬ c < 0 ∧ ¬ (65535 : Int32) < c) (hn0 : 0 < cs.length) (Ad : Arv Z h0 d kd .char (Int32.ofNat cs.length) [] (.int (0 : Int32))) (gd : n0 ≤ d) (ntd : t ≠ d) (S6 : Sta Z Z.heap "java/lang/StringUTF16" "$assertionsDisabled" "Z" (.int (1 : Int32))) (S7 : Sta Z Z.heap "java/lang/StringUTF16" "HI_BYTE_SHIFT" "I" (.int (0 : Int32))) (S8 : Sta Z Z.heap "java/lang/StringUTF16" "LO_BYTE_SHIFT" "I" (.int (8 : Int32))) (S9 : Sta Z Z.heap "jdk/internal/util/Preconditions" "SIOOBE_FORMATTER" "Ljava/util/function/BiFunction;" G9) (r9 : G9.isRef = true) (OL : Old Z n0 h0) :
    MetFree l (⟨"java/lang/StringUTF16", "getChars", "([BII[CI)V"⟩ : MethodName) (head1 (Jvm.Cond.code (⟨"java/lang/StringUTF16", "getChars", "([BII[CI)V"⟩ : MethodName) jdk_52_method_26_code 6 none :: ws) ({ frames := 3, cells := 0, slots := 0, locals := 43 } : Room)) (fun aa_ U => aa_ = #[(.ref t), (.int (0 : Int32)), (.int (Int32.ofNat cs.length)), (.ref d), (.int (0 : Int32))] ∧ Z.Warmed39 U.vm ∧ U.heap = h0) (fun _ _ _ _ _ => True) (fun _ U o U' => ∃ vv_ LL_, o = .returned vv_ ∧ Q_gchg Z t kb cs d kd G9 h0 n0 vv_ U'.heap LL_ ∧ FrameEnd U o U' LL_ 0 0) := by
  refine MetFree.of_bodySF (plainFor_of_name pn_java_lang_StringUTF16) hisR ?_
  intro p e s m args below meth c s₁ Bd hml0 hP hK
  obtain ⟨rfl, hZ, hh⟩ := hP
  have hx := Bd.exec
  have hby := Bd.bytes
  have hml : c.maxLocals = 6 := hml0
  have hown : s.vm.findClass "java/lang/StringUTF16" = some m.cls := findClass_of_methodNamed Bd.named
  have hnm := (name_of_methodNamed Bd.named Bd.method).1
  have X0 : Stand p l e ({ frames := 3, cells := 0, slots := 0, locals := 43 } : Room) s m #[(.ref t), (.int (0 : Int32)), (.int (Int32.ofNat cs.length)), (.ref d), (.int (0 : Int32))] below meth c s₁ [] 0 0 := Stand.of_body Bd
  have e0 : s₁.heap = h0 := by rw [← hh, Bd.state]; rfl
  have N0 := Fr.nil n0
  have ef : entryFrame m #[(.ref t), (.int (0 : Int32)), (.int (Int32.ofNat cs.length)), (.ref d), (.int (0 : Int32))] 6 = mkF m 0 #[.val (.ref t), .val (.int (0 : Int32)), .val (.int (Int32.ofNat cs.length)), .val (.ref d), .val (.int (0 : Int32)), .unset] [] := by first | (simp [entryFrame, mkF, argsToLocals, Value.category]; done) | rfl
  refine Fin.start (Q := Q_gchg Z t kb cs d kd G9 h0 n0) ef ?_
  refine Fin.by (fun tt_ kk_ => XS.iloadN X0.here hx rfl (hb hby d_jdk_52_method_26_0) rfl (XS.iloadN X0.here hx rfl (hb hby d_jdk_52_method_26_1) rfl kk_)) ?_
  show Fin _ _ _ _ _ _ _ (s₁.setTop (mkF m 2 #[.val (.ref t), .val (.int 0), .val (.int (Int32.ofNat cs.length)), .val (.ref d), .val (.int 0), .unset] [(.int (Int32.ofNat cs.length)), (.int 0)]))
  refine Fin.by (fun tt_ kk_ => XS.icmpNo X0.here hx rfl (hb hby d_jdk_52_method_26_2) rfl (tlt (own_pos hn0 (by omega) : (0 : Int32) < (Int32.ofNat cs.length))).2.1 kk_) ?_
  refine Fin.by (fun tt_ kk_ => XS.iloadN X0.here hx rfl (hb hby d_jdk_52_method_26_5) rfl (XS.iloadN X0.here hx rfl (hb hby d_jdk_52_method_26_6) rfl (XS.iloadN X0.here hx rfl (hb hby d_jdk_52_method_26_7) rfl (XS.isub X0.here hx rfl (hb hby d_jdk_52_method_26_8) rfl (XS.aloadN X0.here hx rfl (hb hby d_jdk_52_method_26_9) rfl rfl kk_))))) ?_
  obtain ⟨v101, _, ⟨T101, L101, k101, n101⟩, -, X101, ⟨Lc101, hQ101, l101, y101, z101⟩, st101⟩ := Jvm.LawKit.callS X0 hx (y := y_19) hown (mvT hZ (w_ hw 119 rfl)) (mvT hZ (w_ hw 120 rfl)) (mvT hZ (w_ hw 64 rfl)) (mvT hZ (w_ hw 121 rfl)) (by decide) (backOf (W := 0) (rm_cbug l Z a0 hw [] t kb cs G9 h0 n0 Z0 A0 l5 S9 r9 OL) hZ (w_ hw 121 rfl) (w_ hw 64 rfl) (by decide) (by decide)) (g := (mkF m 10 #[.val (.ref t), .val (.int 0), .val (.int (Int32.ofNat cs.length)), .val (.ref d), .val (.int 0), .unset] [(.ref t), (.int ((Int32.ofNat cs.length) - 0)), (.int 0)])) rfl (by rw [hml]; rfl) (argsL := [(.int 0), (.int ((Int32.ofNat cs.length) - 0)), (.ref t)]) (rest := []) (lenOf pd_315 rfl) rfl (by show 2 * 0 + _ ≤ _; exact Nat.le_of_eq rfl) (hb hby d_jdk_52_method_26_10) (fun _ _ => ⟨rfl, e0, (by decide : 0 + 0 ≤ _), (by decide : 0 + 0 ≤ _)⟩)
  dsimp only [Pt.U, Pt.locs, Pt.cells, Pt.slots] at X101 l101 y101 z101 st101 hQ101
  subst l101 y101 z101
  obtain ⟨rfl, Nq101, e101_⟩ := hQ101
  have N101_ := Fr.app N0 Nq101
  refine Fin.by (fun tt_ kk_ => st101 tt_ kk_) ?_
  have e101 := e101_
  refine Fin.by (fun tt_ kk_ => XS.iloadN X101.here hx rfl (hb hby d_jdk_52_method_26_13) rfl (XS.istore X101.here hx rfl (hb hby d_jdk_52_method_26_14) rfl (l' := #[.val (.ref t), .val (.int 0), .val (.int (Int32.ofNat cs.length)), .val (.ref d), .val (.int 0), .val (.int 0)]) rfl kk_)) ?_
  have J16 : ∀ fu : Nat, ∀ (T102 : State) (h103 : Heap) (lc104 : List Loc) (i : Nat) (j : Int32), Stand p l e ({ frames := 3, cells := 0, slots := 0, locals := 43 } : Room) s m #[(.ref t), (.int (0 : Int32)), (.int (Int32.ofNat cs.length)), (.ref d), (.int (0 : Int32))] below meth c T102 lc104 0 0 → T102.heap = h103 → Fr n0 lc104 → Keep h0 h103 [d] → (fu = cs.length - i) → (j = Int32.ofNat i) → (i ≤ cs.length) → (Arv Z h103 d kd .char (Int32.ofNat cs.length) ((cs.take i).map Value.int) (.int (0 : Int32))) → Fin p e below s (Q_gchg Z t kb cs d kd G9 h0 n0) 0 0 (T102.setTop (mkF m 16 #[.val (.ref t), .val (.int (0 : Int32)), .val (.int (Int32.ofNat cs.length)), .val (.ref d), .val (.int j), .val (.int j)] [])) := by
    intro fu
    induction fu using Nat.strongRecOn with
    | ind fu ih =>
      intro T102 h103 lc104 i j X105 e106 N107 K108 hf hj hil jA
      refine Fin.by (fun tt_ kk_ => XS.iload X105.here hx rfl (hb hby d_jdk_52_method_26_16) rfl (XS.iloadN X105.here hx rfl (hb hby d_jdk_52_method_26_18) rfl kk_)) ?_
      show Fin _ _ _ _ _ _ _ (T102.setTop (mkF m 19 #[.val (.ref t), .val (.int 0), .val (.int (Int32.ofNat cs.length)), .val (.ref d), .val (.int j), .val (.int j)] [(.int (Int32.ofNat cs.length)), (.int j)]))
      by_cases hlt : j < (Int32.ofNat cs.length)
      · refine Fin.by (fun tt_ kk_ => XS.icmpNo X105.here hx rfl (hb hby d_jdk_52_method_26_19) rfl (tlt hlt).2.1 kk_) ?_
        have hi := own_ltof hj hlt hil (by omega)
        refine Fin.by (fun tt_ kk_ => XS.aloadN X105.here hx rfl (hb hby d_jdk_52_method_26_22) rfl rfl (XS.iload X105.here hx rfl (hb hby d_jdk_52_method_26_23) rfl (XS.iinc X105.here hx rfl (hb hby d_jdk_52_method_26_25) rfl (l' := #[.val (.ref t), .val (.int 0), .val (.int (Int32.ofNat cs.length)), .val (.ref d), .val (.int (j + 1)), .val (.int j)]) rfl (XS.aloadN X105.here hx rfl (hb hby d_jdk_52_method_26_28) rfl rfl (XS.iload X105.here hx rfl (hb hby d_jdk_52_method_26_29) rfl kk_))))) ?_
        have A111 : Arv Z h103 t kb .byte (Int32.ofNat (2 * cs.length)) (StrChars.Road.wideBytes cs) (.int 0) := (A0.keep K108 (ninS ntd nin0))
        have O112 : Old Z n0 h103 := (OL.keep K108 (allS gd all0))
        have z113 : n0 ≤ h103.size := Nat.le_trans Z0 K108.1
        obtain ⟨v114, _, ⟨T114, L114, k114, n114⟩, -, X114, ⟨Lc114, hQ114, l114, y114, z114⟩, st114⟩ := Jvm.LawKit.callS X105 hx (y := y_4) hown (mvT hZ (w_ hw 110 rfl)) (mvT hZ (w_ hw 111 rfl)) (mvT hZ (w_ hw 64 rfl)) (mvT hZ (w_ hw 112 rfl)) (by decide) (backOf (W := 2) (rm_uge l Z a0 hw [] t kb (Int32.ofNat (2 * cs.length)) ((StrChars.Road.wideBytes cs) : List Value) i j (StrChars.lo8 (cs.getD i 0)) (StrChars.hi8 (cs.getD i 0)) h103 n0 z113 hj (by rw [own_cl (by omega)]; omega) (by rw [own_cl (by omega)]; omega) (StrChars.Road.wide_lo _ _ _ hi) (StrChars.Road.wide_hi _ _ _ hi) A111 S6 S7 S8 O112) hZ (w_ hw 112 rfl) (w_ hw 64 rfl) (by decide) (by decide)) (g := (mkF m 31 #[.val (.ref t), .val (.int 0), .val (.int (Int32.ofNat cs.length)), .val (.ref d), .val (.int (j + 1)), .val (.int j)] [(.int j), (.ref t), (.int j), (.ref d)])) rfl (by rw [hml]; rfl) (argsL := [(.ref t), (.int j)]) (rest := [(.int j), (.ref d)]) (lenOf pd_71 rfl) rfl (by show 2 * 0 + _ ≤ _; exact Nat.le_of_eq rfl) (hb hby d_jdk_52_method_26_31) (fun _ _ => ⟨rfl, e106, (by decide : 0 + 0 ≤ _), (by decide : 0 + 0 ≤ _)⟩)
        dsimp only [Pt.U, Pt.locs, Pt.cells, Pt.slots] at X114 l114 y114 z114 st114 hQ114
        subst l114 y114 z114
        obtain ⟨rfl, Nq114, e114_⟩ := hQ114
        have N114_ := Fr.app N107 Nq114
        refine Fin.by (fun tt_ kk_ => st114 tt_ kk_) ?_
        have e114 := e114_
        obtain ⟨cl115, Ar115, q115, S115, N115, H115, G115⟩ := id jA
        have hin115 : ¬ (j < 0 ∨ cl115.slots.size ≤ j.toNatClampNeg) := within hj (by rw [S115, own_cl (by omega)]; exact hi) (by rw [S115, own_cl (by omega)]; omega)
        obtain ⟨T115, h115, X115, e115, W115, st115⟩ := stC X114 hx hZ e114 Ar115 (j := j) hin115 (g := (mkF m 34 #[.val (.ref t), .val (.int 0), .val (.int (Int32.ofNat cs.length)), .val (.ref d), .val (.int (j + 1)), .val (.int j)] [(.int (nar .char (StrChars.pairCh (StrChars.lo8 (cs.getD i 0)) (StrChars.hi8 (cs.getD i 0))))), (.int j), (.ref d)])) rfl rfl (hb hby d_jdk_52_method_26_34)
        have V115 : Arv Z h115 d kd .char (Int32.ofNat cs.length) (((cs.take i).map Value.int) ++ [(.int (nar .char (nar .char (StrChars.pairCh (StrChars.lo8 (cs.getD i 0)) (StrChars.hi8 (cs.getD i 0))))))]) (.int (0 : Int32)) := own_push Ar115 q115 S115 N115 H115 G115 (fits_nar_char _) W115 (by rw [clamp_of hj (by omega), own_tlen hil])
        refine Fin.by (fun tt_ kk_ => st115 tt_ kk_) ?_
        have N115_ := Fr.snoc X115 N114_ gd
        have V116 : Arv Z h115 d kd .char (Int32.ofNat cs.length) ((cs.take (i + 1)).map Value.int) (.int (0 : Int32)) := by have q := V115; rw [StrChars.pair_says (own_up2 hb3 hi).1 (own_up2 hb3 hi).2, own_narch (own_up2 hb3 hi), own_narch (own_up2 hb3 hi), own_tk1 Value.int hi] at q; exact q
        refine Fin.by (fun tt_ kk_ => XS.iinc X115.here hx rfl (hb hby d_jdk_52_method_26_35) rfl (l' := #[.val (.ref t), .val (.int 0), .val (.int (Int32.ofNat cs.length)), .val (.ref d), .val (.int (j + 1)), .val (.int (j + 1))]) rfl (XS.goto X115.here hx rfl (pc0 := 38) (pc' := 16) rfl (hb hby d_jdk_52_method_26_38) (by decide) (by decide) kk_)) ?_
        show Fin _ _ _ _ _ _ _ (T115.setTop (mkF m 16 #[.val (.ref t), .val (.int 0), .val (.int (Int32.ofNat cs.length)), .val (.ref d), .val (.int (j + 1)), .val (.int (j + 1))] []))
        have kp117 : Keep h0 h103 [d] := (Keep.refl h0 [d]).trans K108 (allS (Or.inl (List.mem_of_getElem? (i := 0) rfl)) all0)
        have kp118 : Keep h0 h115 [d] := kp117.wr W115 (Or.inl (List.mem_of_getElem? (i := 0) rfl))
        exact ih (cs.length - (i + 1)) (by omega) T115 h115 _ (i + 1) (j + (1 : Int32)) X115 e115 N115_ kp118 rfl (own_ext hj) hi V116
      · refine Fin.by (fun tt_ kk_ => XS.icmpYes X105.here hx rfl (pc0 := 19) (pc' := 41) rfl (hb hby d_jdk_52_method_26_19) rfl (flt hlt).2.1 (by decide) (by decide) kk_) ?_
        obtain rfl := own_geof hj hlt hil (by omega)
        have V109 : Arv Z h103 d kd .char (Int32.ofNat cs.length) (cs.map Value.int) (.int (0 : Int32)) := by have q := jA; rw [List.take_length] at q; exact q
        have kp110 : Keep h0 h103 [d] := (Keep.refl h0 [d]).trans K108 (allS (Or.inl (List.mem_of_getElem? (i := 0) rfl)) all0)
        show Fin _ _ _ _ _ _ _ (T102.setTop (mkF m 41 #[.val (.ref t), .val (.int 0), .val (.int (Int32.ofNat cs.length)), .val (.ref d), .val (.int j), .val (.int j)] []))
        exact Fin.ret (v := none) X105 (fun _ => rfl) Bd.notSynchronized (by rw [e106]; exact ⟨rfl, N107, kp110, V109⟩) (by decide) (by decide) (fun fs hr => X105.returnOut hx Bd.returns (hb hby d_jdk_52_method_26_41) hr)
  show Fin _ _ _ _ _ _ _ (T101.setTop (mkF m 16 #[.val (.ref t), .val (.int 0), .val (.int (Int32.ofNat cs.length)), .val (.ref d), .val (.int 0), .val (.int 0)] []))
  exact J16 (cs.length - 0) T101 h0 _ 0 (0 : Int32) X101 e101 N101_ (Keep.refl h0 [d]) rfl rfl (Nat.zero_le _) Ad
abbrev y_20 : MethodName := (⟨"java/lang/StringUTF16", "getChars", "([BII[CI)V"⟩ : MethodName)
theorem d_jdk_52_method_13_0 : decode jdk_52_method_13_code 0 = .ok (.aload_n 0, 1) := by decide +kernel
theorem d_jdk_52_method_13_1 : decode jdk_52_method_13_code 1 = .ok (.arraylength, 1) := by decide +kernel
theorem d_jdk_52_method_13_2 : decode jdk_52_method_13_code 2 = .ok (.iconst 1, 1) := by decide +kernel
theorem d_jdk_52_method_13_3 : decode jdk_52_method_13_code 3 = .ok (.ishr, 1) := by decide +kernel
theorem d_jdk_52_method_13_4 : decode jdk_52_method_13_code 4 = .ok (.newarray .char, 2) := by decide +kernel
theorem d_jdk_52_method_13_6 : decode jdk_52_method_13_code 6 = .ok (.astore_n 1, 1) := by decide +kernel
theorem d_jdk_52_method_13_7 : decode jdk_52_method_13_code 7 = .ok (.aload_n 0, 1) := by decide +kernel
theorem d_jdk_52_method_13_8 : decode jdk_52_method_13_code 8 = .ok (.iconst 0, 1) := by decide +kernel
theorem d_jdk_52_method_13_9 : decode jdk_52_method_13_code 9 = .ok (.aload_n 1, 1) := by decide +kernel
theorem d_jdk_52_method_13_10 : decode jdk_52_method_13_code 10 = .ok (.arraylength, 1) := by decide +kernel
theorem d_jdk_52_method_13_11 : decode jdk_52_method_13_code 11 = .ok (.aload_n 1, 1) := by decide +kernel
theorem d_jdk_52_method_13_12 : decode jdk_52_method_13_code 12 = .ok (.iconst 0, 1) := by decide +kernel
theorem pd_344 : parseMethodDescriptor "([BII[CI)V" = some ⟨[(.array .byte), .int, .int, (.array .char), .int], none⟩ := by decide +kernel
theorem d_jdk_52_method_13_13 : decode jdk_52_method_13_code 13 = .ok (.invokestatic 103, 3) := by decide +kernel
theorem d_jdk_52_method_13_16 : decode jdk_52_method_13_code 16 = .ok (.aload_n 1, 1) := by decide +kernel
theorem d_jdk_52_method_13_17 : decode jdk_52_method_13_code 17 = .ok (.areturn, 1) := by decide +kernel
def Q_tcug (Z : State) (t : Addr) (kb : ClassId) (cs : List Int32) (G9 : Value) (h0 : Heap) (n0 : Nat) (vv_ : Option Value) (hh_ : Heap) (LL_ : List Loc) : Prop := ∃ (d : Addr), ∃ (kd : ClassId), vv_ = some (.ref d) ∧ Fr n0 LL_ ∧ Keep h0 hh_ [] ∧ h0.size ≤ d ∧ Arv Z hh_ d kd .char (Int32.ofNat cs.length) (cs.map Value.int) (.int (0 : Int32))
set_option maxRecDepth 65536 in
set_option maxHeartbeats 40000000 in
theorem rm_tcug (l : Launch) (Z : State) (a0 : Array Value) (hw : ∀ d ∈ tables_1, d.before a0 Z = true) (ws : List Jvm.Cond) (t : Addr) (kb : ClassId) (cs : List Int32) (G9 : Value) (h0 : Heap) (n0 : Nat) (Z0 : n0 ≤ h0.size) (A0 : Arv Z h0 t kb .byte (Int32.ofNat (2 * cs.length)) (StrChars.Road.wideBytes cs) (.int 0)) (l5 : cs.length ≤ 5) (hb3 : ∀ c ∈ cs, ¬ c < 0 ∧ ¬ (65535 : Int32) < c) (hn0 : 0 < cs.length) (S6 : Sta Z Z.heap "java/lang/StringUTF16" "$assertionsDisabled" "Z" (.int (1 : Int32))) (S7 : Sta Z Z.heap "java/lang/StringUTF16" "HI_BYTE_SHIFT" "I" (.int (0 : Int32))) (S8 : Sta Z Z.heap "java/lang/StringUTF16" "LO_BYTE_SHIFT" "I" (.int (8 : Int32))) (S9 : Sta Z Z.heap "jdk/internal/util/Preconditions" "SIOOBE_FORMATTER" "Ljava/util/function/BiFunction;" G9) (r9 : G9.isRef = true) (OL : Old Z n0 h0) :
    MetFree l (⟨"java/lang/StringUTF16", "toChars", "([B)[C"⟩ : MethodName) (head1 (Jvm.Cond.code (⟨"java/lang/StringUTF16", "toChars", "([B)[C"⟩ : MethodName) jdk_52_method_13_code 2 (some (.array .char)) :: ws) ({ frames := 4, cells := 1, slots := 5, locals := 60 } : Room)) (fun aa_ U => aa_ = #[(.ref t)] ∧ Z.Warmed39 U.vm ∧ U.heap = h0) (fun _ _ _ _ _ => True) (fun _ U o U' => ∃ vv_ LL_, o = .returned vv_ ∧ Q_tcug Z t kb cs G9 h0 n0 vv_ U'.heap LL_ ∧ FrameEnd U o U' LL_ 1 5) := by
  refine MetFree.of_bodySF (plainFor_of_name pn_java_lang_StringUTF16) hisR ?_
  intro p e s m args below meth c s₁ Bd hml0 hP hK
  obtain ⟨rfl, hZ, hh⟩ := hP
  have hx := Bd.exec
  have hby := Bd.bytes
  have hml : c.maxLocals = 2 := hml0
  have hown : s.vm.findClass "java/lang/StringUTF16" = some m.cls := findClass_of_methodNamed Bd.named
  have hnm := (name_of_methodNamed Bd.named Bd.method).1
  have X0 : Stand p l e ({ frames := 4, cells := 1, slots := 5, locals := 60 } : Room) s m #[(.ref t)] below meth c s₁ [] 0 0 := Stand.of_body Bd
  have e0 : s₁.heap = h0 := by rw [← hh, Bd.state]; rfl
  have N0 := Fr.nil n0
  have ef : entryFrame m #[(.ref t)] 2 = mkF m 0 #[.val (.ref t), .unset] [] := by first | (simp [entryFrame, mkF, argsToLocals, Value.category]; done) | rfl
  refine Fin.start (Q := Q_tcug Z t kb cs G9 h0 n0) ef ?_
  refine Fin.by (fun tt_ kk_ => XS.aloadN X0.here hx rfl (hb hby d_jdk_52_method_13_0) rfl rfl kk_) ?_
  obtain ⟨cl101, Ar101, q101, S101, N101, H101, G101⟩ := id A0
  refine Fin.by (fun tt_ kk_ => X0.arraylength hx (by rw [e0]; exact Ar101.1) (State.isArrayOf_alike hZ.alike Ar101.2.1) (g := (mkF m 1 #[.val (.ref t), .unset] [(.ref t)])) rfl rfl (hb hby d_jdk_52_method_13_1) _ kk_) ?_
  rw [len_of S101 N101]
  refine Fin.by (fun tt_ kk_ => XS.iconst X0.here hx rfl (hb hby d_jdk_52_method_13_2) (XS.ishr X0.here hx rfl (hb hby d_jdk_52_method_13_3) rfl kk_)) ?_
  show Fin _ _ _ _ _ _ _ (s₁.setTop (mkF m 4 #[.val (.ref t), .unset] [(.int ((Int32.ofNat (2 * cs.length)) >>> (1 &&& 31)))]))
  rw [StrChars.shr1 (by omega)]
  obtain ⟨T102, h102, k102, X102, e102, E102, A102, st102⟩ := newP X0 hx hZ (w_ hw 9 rfl) e0 (g := (mkF m 4 #[.val (.ref t), .unset] [(.int (Int32.ofNat cs.length))])) rfl (hb hby d_jdk_52_method_13_4) rfl (own_notlt (by omega)) (cap := 5) (by rw [own_cl (by omega)]; omega) (by decide) (by decide) (by decide)
  obtain ⟨a102, g102⟩ : ∃ z, z = h0.size := ⟨_, rfl⟩
  rw [← g102] at A102 st102
  refine Fin.by (fun tt_ kk_ => st102 tt_ kk_) ?_
  have V102 : Arv Z h102 a102 k102 .char (Int32.ofNat cs.length) [] (.int (0 : Int32)) := Arv.new A102 (own_notlt (by omega))
  refine Fin.by (fun tt_ kk_ => XS.astoreN X102.here hx rfl (hb hby d_jdk_52_method_13_6) rfl rfl (l' := #[.val (.ref t), .val (.ref a102)]) rfl (XS.aloadN X102.here hx rfl (hb hby d_jdk_52_method_13_7) rfl rfl (XS.iconst X102.here hx rfl (hb hby d_jdk_52_method_13_8) (XS.aloadN X102.here hx rfl (hb hby d_jdk_52_method_13_9) rfl rfl kk_)))) ?_
  obtain ⟨cl103, Ar103, q103, S103, N103, H103, G103⟩ := id V102
  refine Fin.by (fun tt_ kk_ => X102.arraylength hx (by rw [e102]; exact Ar103.1) (State.isArrayOf_alike hZ.alike Ar103.2.1) (g := (mkF m 10 #[.val (.ref t), .val (.ref a102)] [(.ref a102), (.int 0), (.ref t)])) rfl rfl (hb hby d_jdk_52_method_13_10) _ kk_) ?_
  rw [len_of S103 N103]
  refine Fin.by (fun tt_ kk_ => XS.aloadN X102.here hx rfl (hb hby d_jdk_52_method_13_11) rfl rfl (XS.iconst X102.here hx rfl (hb hby d_jdk_52_method_13_12) kk_)) ?_
  have A104 : Arv Z h102 t kb .byte (Int32.ofNat (2 * cs.length)) (StrChars.Road.wideBytes cs) (.int 0) := (A0.ext E102)
  have g105 : n0 ≤ a102 := Nat.le_trans Z0 (Nat.le_of_eq g102.symm)
  have ne106 : t ≠ a102 := Nat.ne_of_lt (Nat.lt_of_lt_of_le A0.lt (Nat.le_of_eq g102.symm))
  have O107 : Old Z n0 h102 := (OL.ext E102)
  have z108 : n0 ≤ h102.size := Nat.le_trans Z0 E102.1
  obtain ⟨v109, _, ⟨T109, L109, k109, n109⟩, -, X109, ⟨Lc109, hQ109, l109, y109, z109⟩, st109⟩ := Jvm.LawKit.callS X102 hx (y := y_20) hown (mvT hZ (w_ hw 116 rfl)) (mvT hZ (w_ hw 117 rfl)) (mvT hZ (w_ hw 64 rfl)) (mvT hZ (w_ hw 118 rfl)) (by decide) (backOf (W := 0) (rm_gchg l Z a0 hw [] t kb cs a102 k102 G9 h102 n0 z108 A104 l5 hb3 hn0 V102 g105 ne106 S6 S7 S8 S9 r9 O107) hZ (w_ hw 118 rfl) (w_ hw 64 rfl) (by decide) (by decide)) (g := (mkF m 13 #[.val (.ref t), .val (.ref a102)] [(.int 0), (.ref a102), (.int (Int32.ofNat cs.length)), (.int 0), (.ref t)])) rfl (by rw [hml]; rfl) (argsL := [(.ref t), (.int 0), (.int (Int32.ofNat cs.length)), (.ref a102), (.int 0)]) (rest := []) (lenOf pd_344 rfl) rfl (by show 2 * 0 + _ ≤ _; exact Nat.le_of_eq rfl) (hb hby d_jdk_52_method_13_13) (fun _ _ => ⟨rfl, e102, (by decide : 1 + 0 ≤ _), (by decide : 5 + 0 ≤ _)⟩)
  dsimp only [Pt.U, Pt.locs, Pt.cells, Pt.slots] at X109 l109 y109 z109 st109 hQ109
  subst l109 y109 z109
  obtain ⟨rfl, Nq109, p109_0, p109_1⟩ := hQ109
  have N109_ := Fr.app N0 Nq109
  refine Fin.by (fun tt_ kk_ => st109 tt_ kk_) ?_
  refine Fin.by (fun tt_ kk_ => XS.aloadN X109.here hx rfl (hb hby d_jdk_52_method_13_16) rfl rfl kk_) ?_
  have kp110 : Keep h0 h102 [] := (Keep.refl h0 []).ext E102
  have kp111 : Keep h0 T109.heap [] := kp110.trans p109_0 (allS (Or.inr (Nat.le_trans (Nat.le_refl _) (Nat.le_of_eq g102.symm))) all0)
  show Fin _ _ _ _ _ _ _ (T109.setTop (mkF m 17 #[.val (.ref t), .val (.ref a102)] [(.ref a102)]))
  exact Fin.ret (v := some (.ref a102)) X109 (fun h => by rw [Bd.returns] at h; cases h) Bd.notSynchronized (⟨a102, k102, rfl, N109_, kp111, (Nat.le_trans (Nat.le_refl _) (Nat.le_of_eq g102.symm)), p109_1⟩) (by decide) (by decide) (fun fs hr => retA X109 hx Bd.returns rfl rfl (hb hby d_jdk_52_method_13_17) hr)
abbrev y_21 : MethodName := (⟨"java/lang/StringLatin1", "toChars", "([B)[C"⟩ : MethodName)
abbrev y_22 : MethodName := (⟨"java/lang/StringUTF16", "toChars", "([B)[C"⟩ : MethodName)
theorem d_jdk_42_method_129_0 : decode jdk_42_method_129_code 0 = .ok (.aload_n 0, 1) := by decide +kernel
theorem d_jdk_42_method_129_1 : decode jdk_42_method_129_code 1 = .ok (.invokevirtual 492, 3) := by decide +kernel
theorem d_jdk_42_method_129_4 : decode jdk_42_method_129_code 4 = .ok (.ifCond .eq 13, 3) := by decide +kernel
theorem d_jdk_42_method_129_7 : decode jdk_42_method_129_code 7 = .ok (.aload_n 0, 1) := by decide +kernel
theorem d_jdk_42_method_129_8 : decode jdk_42_method_129_code 8 = .ok (.getfield 9, 3) := by decide +kernel
theorem pd_353 : parseMethodDescriptor "([B)[C" = some ⟨[(.array .byte)], some (.array .char)⟩ := by decide +kernel
theorem d_jdk_42_method_129_11 : decode jdk_42_method_129_code 11 = .ok (.invokestatic 299, 3) := by decide +kernel
theorem d_jdk_42_method_129_14 : decode jdk_42_method_129_code 14 = .ok (.goto 10, 3) := by decide +kernel
theorem d_jdk_42_method_129_24 : decode jdk_42_method_129_code 24 = .ok (.areturn, 1) := by decide +kernel
theorem d_jdk_42_method_129_17 : decode jdk_42_method_129_code 17 = .ok (.aload_n 0, 1) := by decide +kernel
theorem d_jdk_42_method_129_18 : decode jdk_42_method_129_code 18 = .ok (.getfield 9, 3) := by decide +kernel
theorem d_jdk_42_method_129_21 : decode jdk_42_method_129_code 21 = .ok (.invokestatic 303, 3) := by decide +kernel
def Q_tcg (Z : State) (x : Addr) (t : Addr) (kb : ClassId) (N2 : Int32) (vs : List Value) (cs : List Int32) (cd : Int32) (G1 : Int32) (G9 : Value) (h0 : Heap) (n0 : Nat) (vv_ : Option Value) (hh_ : Heap) (LL_ : List Loc) : Prop := ∃ (d : Addr), ∃ (kd : ClassId), vv_ = some (.ref d) ∧ Fr n0 LL_ ∧ Keep h0 hh_ [] ∧ h0.size ≤ d ∧ Arv Z hh_ d kd .char (Int32.ofNat cs.length) (cs.map Value.int) (.int (0 : Int32))
set_option maxRecDepth 65536 in
set_option maxHeartbeats 40000000 in
theorem rm_tcg (l : Launch) (Z : State) (a0 : Array Value) (hw : ∀ d ∈ tables_1, d.before a0 Z = true) (ws : List Jvm.Cond) (x : Addr) (t : Addr) (kb : ClassId) (N2 : Int32) (vs : List Value) (cs : List Int32) (cd : Int32) (G1 : Int32) (G9 : Value) (h0 : Heap) (n0 : Nat) (Z0 : n0 ≤ h0.size) (hc : StrChars.Road.CodA cs cd N2 vs) (hb3 : ∀ c ∈ cs, ¬ c < 0 ∧ ¬ (65535 : Int32) < c) (l5 : cs.length ≤ 5) (E0 : Exa Z h0 x "java/lang/String") (F0 : Fld Z h0 x "java/lang/String" "value" "[B" (.ref t)) (F1 : Fld Z h0 x "java/lang/String" "coder" "B" (.int cd)) (A0 : Arv Z h0 t kb .byte N2 vs (.int 0)) (S1 : Sta Z Z.heap "java/lang/String" "COMPACT_STRINGS" "Z" (.int G1)) (P1 : ¬ G1 = 0) (S6 : Sta Z Z.heap "java/lang/StringUTF16" "$assertionsDisabled" "Z" (.int (1 : Int32))) (S7 : Sta Z Z.heap "java/lang/StringUTF16" "HI_BYTE_SHIFT" "I" (.int (0 : Int32))) (S8 : Sta Z Z.heap "java/lang/StringUTF16" "LO_BYTE_SHIFT" "I" (.int (8 : Int32))) (S9 : Sta Z Z.heap "jdk/internal/util/Preconditions" "SIOOBE_FORMATTER" "Ljava/util/function/BiFunction;" G9) (r9 : G9.isRef = true) (OL : Old Z n0 h0) :
    MetFree l (⟨"java/lang/String", "toCharArray", "()[C"⟩ : MethodName) (head1 (Jvm.Cond.code (⟨"java/lang/String", "toCharArray", "()[C"⟩ : MethodName) jdk_42_method_129_code 1 (some (.array .char)) :: ws) ({ frames := 5, cells := 1, slots := 5, locals := 73 } : Room)) (fun aa_ U => aa_ = #[(.ref x)] ∧ Z.Warmed39 U.vm ∧ U.heap = h0) (fun _ _ _ _ _ => True) (fun _ U o U' => ∃ vv_ LL_, o = .returned vv_ ∧ Q_tcg Z x t kb N2 vs cs cd G1 G9 h0 n0 vv_ U'.heap LL_ ∧ FrameEnd U o U' LL_ 1 5) := by
  refine MetFree.of_bodySF (plainFor_of_name pn_java_lang_String) hisR ?_
  intro p e s m args below meth c s₁ Bd hml0 hP hK
  obtain ⟨rfl, hZ, hh⟩ := hP
  have hx := Bd.exec
  have hby := Bd.bytes
  have hml : c.maxLocals = 1 := hml0
  have hown : s.vm.findClass "java/lang/String" = some m.cls := findClass_of_methodNamed Bd.named
  have hnm := (name_of_methodNamed Bd.named Bd.method).1
  have X0 : Stand p l e ({ frames := 5, cells := 1, slots := 5, locals := 73 } : Room) s m #[(.ref x)] below meth c s₁ [] 0 0 := Stand.of_body Bd
  have e0 : s₁.heap = h0 := by rw [← hh, Bd.state]; rfl
  have N0 := Fr.nil n0
  have ef : entryFrame m #[(.ref x)] 1 = mkF m 0 #[.val (.ref x)] [] := by first | (simp [entryFrame, mkF, argsToLocals, Value.category]; done) | rfl
  refine Fin.start (Q := Q_tcg Z x t kb N2 vs cs cd G1 G9 h0 n0) ef ?_
  rcases id hc with ⟨hcd, hN2, hvs, hlat⟩ | ⟨hcd, hN2, hvs, hex⟩
  · subst hcd
    refine Fin.by (fun tt_ kk_ => XS.aloadN X0.here hx rfl (hb hby d_jdk_42_method_129_0) rfl rfl kk_) ?_
    obtain ⟨cq101, kq101, qa101, qb101, qc101⟩ := isOf hZ e0 E0
    obtain ⟨v101, _, ⟨T101, L101, k101, n101⟩, -, X101, ⟨Lc101, hQ101, l101, y101, z101⟩, st101⟩ := X0.virtualBack hx (y := y_5) (z := y_5) hown (mvT hZ (w_ hw 37 rfl)) (mvT hZ (w_ hw 38 rfl)) (notFace_of_selects (args := #[]) (mvT hZ (w_ hw 40 rfl))) (mvT hZ (w_ hw 40 rfl)) (mvT hZ (w_ hw 39 rfl)) (by decide) (backOf (W := 0) (rm_isl0 l Z a0 hw [] x G1 h0 n0 Z0 F1 S1 P1 OL) hZ (w_ hw 41 rfl) (w_ hw 8 rfl) (by decide) (by decide)) qa101 qc101 (g := (mkF m 1 #[.val (.ref x)] [(.ref x)])) rfl (by rw [hml]; rfl) (Steps.refl _) (argsL := []) (rest := []) (lenOf pd_84 rfl) rfl (by show 2 * 0 + _ ≤ _; exact Nat.le_of_eq rfl) (hb hby d_jdk_42_method_129_1) (fun _ _ => ⟨rfl, e0, (by decide : 0 + 0 ≤ _), (by decide : 0 + 0 ≤ _)⟩)
    dsimp only [Pt.U, Pt.locs, Pt.cells, Pt.slots] at X101 l101 y101 z101 st101 hQ101
    subst l101 y101 z101
    obtain ⟨rfl, Nq101, e101_⟩ := hQ101
    have N101_ := Fr.app N0 Nq101
    refine Fin.byS st101 ?_
    have e101 := e101_
    show Fin _ _ _ _ _ _ _ (T101.setTop (mkF m 4 #[.val (.ref x)] [(.int (nar .boolean 1))]))
    refine Fin.by (fun tt_ kk_ => XS.ifNo X101.here hx rfl (hb hby d_jdk_42_method_129_4) rfl ((if0 _ _).trans (feq (by decide : ¬ (nar .boolean (1 : Int32)) = (0 : Int32))).1) kk_) ?_
    refine Fin.by (fun tt_ kk_ => XS.aloadN X101.here hx rfl (hb hby d_jdk_42_method_129_7) rfl rfl kk_) ?_
    obtain ⟨T102, X102, e102, st102⟩ := getF X101 hx hZ hown (host := "") (Or.inl (w_ hw 26 rfl)) Via.refl e101 F0 (g := (mkF m 8 #[.val (.ref x)] [(.ref x)])) rfl rfl (hb hby d_jdk_42_method_129_8)
    refine Fin.by (fun tt_ kk_ => st102 tt_ kk_) ?_
    obtain ⟨v103, _, ⟨T103, L103, k103, n103⟩, -, X103, ⟨Lc103, hQ103, l103, y103, z103⟩, st103⟩ := Jvm.LawKit.callS X102 hx (y := y_21) hown (mvT hZ (w_ hw 43 rfl)) (mvT hZ (w_ hw 44 rfl)) (mvT hZ (w_ hw 45 rfl)) (mvT hZ (w_ hw 46 rfl)) (by decide) (backOf (W := 0) (rm_tclg l Z a0 hw [] t kb N2 (vs : List Value) cs h0 n0 Z0 A0 hN2 hvs hlat l5 hb3) hZ (w_ hw 46 rfl) (w_ hw 45 rfl) (by decide) (by decide)) (g := (mkF m 11 #[.val (.ref x)] [(.ref t)])) rfl (by rw [hml]; rfl) (argsL := [(.ref t)]) (rest := []) (lenOf pd_353 rfl) rfl (by show 2 * 0 + _ ≤ _; exact Nat.le_of_eq rfl) (hb hby d_jdk_42_method_129_11) (fun _ _ => ⟨rfl, e102, (by decide : 0 + 1 ≤ _), (by decide : 0 + 5 ≤ _)⟩)
    dsimp only [Pt.U, Pt.locs, Pt.cells, Pt.slots] at X103 l103 y103 z103 st103 hQ103
    subst l103 y103 z103
    obtain ⟨d104, kd105, rfl, Nq103, p103_0, p103_1, p103_2⟩ := hQ103
    have N103_ := Fr.app N101_ Nq103
    refine Fin.by (fun tt_ kk_ => st103 tt_ kk_) ?_
    refine Fin.by (fun tt_ kk_ => XS.goto X103.here hx rfl (pc0 := 14) (pc' := 24) rfl (hb hby d_jdk_42_method_129_14) (by decide) (by decide) kk_) ?_
    have kp106 : Keep h0 T103.heap [] := (Keep.refl h0 []).trans p103_0 all0
    show Fin _ _ _ _ _ _ _ (T103.setTop (mkF m 24 #[.val (.ref x)] [(.ref d104)]))
    exact Fin.ret (v := some (.ref d104)) X103 (fun h => by rw [Bd.returns] at h; cases h) Bd.notSynchronized (⟨d104, kd105, rfl, N103_, kp106, (Nat.le_trans (Nat.le_refl _) p103_1), p103_2⟩) (by decide) (by decide) (fun fs hr => retA X103 hx Bd.returns rfl rfl (hb hby d_jdk_42_method_129_24) hr)
  · subst hcd
    subst hN2
    subst hvs
    refine Fin.by (fun tt_ kk_ => XS.aloadN X0.here hx rfl (hb hby d_jdk_42_method_129_0) rfl rfl kk_) ?_
    obtain ⟨cq107, kq107, qa107, qb107, qc107⟩ := isOf hZ e0 E0
    obtain ⟨v107, _, ⟨T107, L107, k107, n107⟩, -, X107, ⟨Lc107, hQ107, l107, y107, z107⟩, st107⟩ := X0.virtualBack hx (y := y_5) (z := y_5) hown (mvT hZ (w_ hw 37 rfl)) (mvT hZ (w_ hw 38 rfl)) (notFace_of_selects (args := #[]) (mvT hZ (w_ hw 40 rfl))) (mvT hZ (w_ hw 40 rfl)) (mvT hZ (w_ hw 39 rfl)) (by decide) (backOf (W := 0) (rm_isl1 l Z a0 hw [] x G1 h0 n0 Z0 F1 S1 P1 OL) hZ (w_ hw 41 rfl) (w_ hw 8 rfl) (by decide) (by decide)) qa107 qc107 (g := (mkF m 1 #[.val (.ref x)] [(.ref x)])) rfl (by rw [hml]; rfl) (Steps.refl _) (argsL := []) (rest := []) (lenOf pd_84 rfl) rfl (by show 2 * 0 + _ ≤ _; exact Nat.le_of_eq rfl) (hb hby d_jdk_42_method_129_1) (fun _ _ => ⟨rfl, e0, (by decide : 0 + 0 ≤ _), (by decide : 0 + 0 ≤ _)⟩)
    dsimp only [Pt.U, Pt.locs, Pt.cells, Pt.slots] at X107 l107 y107 z107 st107 hQ107
    subst l107 y107 z107
    obtain ⟨rfl, Nq107, e107_⟩ := hQ107
    have N107_ := Fr.app N0 Nq107
    refine Fin.byS st107 ?_
    have e107 := e107_
    show Fin _ _ _ _ _ _ _ (T107.setTop (mkF m 4 #[.val (.ref x)] [(.int (nar .boolean 0))]))
    refine Fin.by (fun tt_ kk_ => XS.ifYes X107.here hx rfl (pc0 := 4) (pc' := 17) rfl (hb hby d_jdk_42_method_129_4) rfl ((if0 _ _).trans (teq (by decide : (nar .boolean (0 : Int32)) = (0 : Int32))).1) (by decide) (by decide) kk_) ?_
    refine Fin.by (fun tt_ kk_ => XS.aloadN X107.here hx rfl (hb hby d_jdk_42_method_129_17) rfl rfl kk_) ?_
    obtain ⟨T108, X108, e108, st108⟩ := getF X107 hx hZ hown (host := "") (Or.inl (w_ hw 26 rfl)) Via.refl e107 F0 (g := (mkF m 18 #[.val (.ref x)] [(.ref x)])) rfl rfl (hb hby d_jdk_42_method_129_18)
    refine Fin.by (fun tt_ kk_ => st108 tt_ kk_) ?_
    obtain ⟨v109, _, ⟨T109, L109, k109, n109⟩, -, X109, ⟨Lc109, hQ109, l109, y109, z109⟩, st109⟩ := Jvm.LawKit.callS X108 hx (y := y_22) hown (mvT hZ (w_ hw 113 rfl)) (mvT hZ (w_ hw 114 rfl)) (mvT hZ (w_ hw 64 rfl)) (mvT hZ (w_ hw 115 rfl)) (by decide) (backOf (W := 0) (rm_tcug l Z a0 hw [] t kb cs G9 h0 n0 Z0 A0 l5 hb3 (by obtain ⟨c9, hc9, -⟩ := hex; exact List.length_pos_of_mem hc9) S6 S7 S8 S9 r9 OL) hZ (w_ hw 115 rfl) (w_ hw 64 rfl) (by decide) (by decide)) (g := (mkF m 21 #[.val (.ref x)] [(.ref t)])) rfl (by rw [hml]; rfl) (argsL := [(.ref t)]) (rest := []) (lenOf pd_353 rfl) rfl (by show 2 * 0 + _ ≤ _; exact Nat.le_of_eq rfl) (hb hby d_jdk_42_method_129_21) (fun _ _ => ⟨rfl, e108, (by decide : 0 + 1 ≤ _), (by decide : 0 + 5 ≤ _)⟩)
    dsimp only [Pt.U, Pt.locs, Pt.cells, Pt.slots] at X109 l109 y109 z109 st109 hQ109
    subst l109 y109 z109
    obtain ⟨d110, kd111, rfl, Nq109, p109_0, p109_1, p109_2⟩ := hQ109
    have N109_ := Fr.app N107_ Nq109
    refine Fin.by (fun tt_ kk_ => st109 tt_ kk_) ?_
    have kp112 : Keep h0 T109.heap [] := (Keep.refl h0 []).trans p109_0 all0
    show Fin _ _ _ _ _ _ _ (T109.setTop (mkF m 24 #[.val (.ref x)] [(.ref d110)]))
    exact Fin.ret (v := some (.ref d110)) X109 (fun h => by rw [Bd.returns] at h; cases h) Bd.notSynchronized (⟨d110, kd111, rfl, N109_, kp112, (Nat.le_trans (Nat.le_refl _) p109_1), p109_2⟩) (by decide) (by decide) (fun fs hr => retA X109 hx Bd.returns rfl rfl (hb hby d_jdk_42_method_129_24) hr)
theorem d_jdk_42_method_152_0 : decode jdk_42_method_152_code 0 = .ok (.getstatic 38, 3) := by decide +kernel
theorem d_jdk_42_method_152_3 : decode jdk_42_method_152_code 3 = .ok (.ifCond .eq 10, 3) := by decide +kernel
theorem d_jdk_42_method_152_6 : decode jdk_42_method_152_code 6 = .ok (.aload_n 0, 1) := by decide +kernel
theorem d_jdk_42_method_152_7 : decode jdk_42_method_152_code 7 = .ok (.getfield 15, 3) := by decide +kernel
theorem d_jdk_42_method_152_10 : decode jdk_42_method_152_code 10 = .ok (.goto 4, 3) := by decide +kernel
theorem d_jdk_42_method_152_14 : decode jdk_42_method_152_code 14 = .ok (.ireturn, 1) := by decide +kernel
def Q_cdr (Z : State) (x : Addr) (cd : Int32) (G1 : Int32) (h0 : Heap) (n0 : Nat) (vv_ : Option Value) (hh_ : Heap) (LL_ : List Loc) : Prop := vv_ = some (.int (nar .byte cd)) ∧ Fr n0 LL_ ∧ hh_ = h0
set_option maxRecDepth 65536 in
set_option maxHeartbeats 40000000 in
theorem rm_cdr (l : Launch) (Z : State) (a0 : Array Value) (hw : ∀ d ∈ tables_1, d.before a0 Z = true) (ws : List Jvm.Cond) (x : Addr) (cd : Int32) (G1 : Int32) (h0 : Heap) (n0 : Nat) (Z0 : n0 ≤ h0.size) (F1 : Fld Z h0 x "java/lang/String" "coder" "B" (.int cd)) (S1 : Sta Z Z.heap "java/lang/String" "COMPACT_STRINGS" "Z" (.int G1)) (P1 : ¬ G1 = 0) (OL : Old Z n0 h0) :
    MetFree l (⟨"java/lang/String", "coder", "()B"⟩ : MethodName) (head1 (Jvm.Cond.code (⟨"java/lang/String", "coder", "()B"⟩ : MethodName) jdk_42_method_152_code 1 (some .byte) :: ws) ({ frames := 0, cells := 0, slots := 0, locals := 0 } : Room)) (fun aa_ U => aa_ = #[(.ref x)] ∧ Z.Warmed39 U.vm ∧ U.heap = h0) (fun _ _ _ _ _ => True) (fun _ U o U' => ∃ vv_ LL_, o = .returned vv_ ∧ Q_cdr Z x cd G1 h0 n0 vv_ U'.heap LL_ ∧ FrameEnd U o U' LL_ 0 0) := by
  refine MetFree.of_bodySF (plainFor_of_name pn_java_lang_String) hisR ?_
  intro p e s m args below meth c s₁ Bd hml0 hP hK
  obtain ⟨rfl, hZ, hh⟩ := hP
  have hx := Bd.exec
  have hby := Bd.bytes
  have hml : c.maxLocals = 1 := hml0
  have hown : s.vm.findClass "java/lang/String" = some m.cls := findClass_of_methodNamed Bd.named
  have hnm := (name_of_methodNamed Bd.named Bd.method).1
  have X0 : Stand p l e ({ frames := 0, cells := 0, slots := 0, locals := 0 } : Room) s m #[(.ref x)] below meth c s₁ [] 0 0 := Stand.of_body Bd
  have e0 : s₁.heap = h0 := by rw [← hh, Bd.state]; rfl
  have N0 := Fr.nil n0
  have ef : entryFrame m #[(.ref x)] 1 = mkF m 0 #[.val (.ref x)] [] := by first | (simp [entryFrame, mkF, argsToLocals, Value.category]; done) | rfl
  refine Fin.start (Q := Q_cdr Z x cd G1 h0 n0) ef ?_
  obtain ⟨T101, X101, e101, st101⟩ := getS X0 hx hZ (host := "") hown (w_ hw 42 rfl) Via.refl e0 (S1.ext OL.2) (g := (mkF m 0 #[.val (.ref x)] [])) rfl (hb hby d_jdk_42_method_152_0)
  refine Fin.by (fun tt_ kk_ => st101 tt_ kk_) ?_
  show Fin _ _ _ _ _ _ _ (T101.setTop (mkF m 3 #[.val (.ref x)] [(.int G1)]))
  refine Fin.by (fun tt_ kk_ => XS.ifNo X101.here hx rfl (hb hby d_jdk_42_method_152_3) rfl ((if0 _ _).trans (feq (P1 : ¬ G1 = (0 : Int32))).1) kk_) ?_
  refine Fin.by (fun tt_ kk_ => XS.aloadN X101.here hx rfl (hb hby d_jdk_42_method_152_6) rfl rfl kk_) ?_
  obtain ⟨T102, X102, e102, st102⟩ := getF X101 hx hZ hown (host := "") (Or.inl (w_ hw 27 rfl)) Via.refl e101 F1 (g := (mkF m 7 #[.val (.ref x)] [(.ref x)])) rfl rfl (hb hby d_jdk_42_method_152_7)
  refine Fin.by (fun tt_ kk_ => st102 tt_ kk_) ?_
  refine Fin.by (fun tt_ kk_ => XS.goto X102.here hx rfl (pc0 := 10) (pc' := 14) rfl (hb hby d_jdk_42_method_152_10) (by decide) (by decide) kk_) ?_
  show Fin _ _ _ _ _ _ _ (T102.setTop (mkF m 14 #[.val (.ref x)] [(.int cd)]))
  exact Fin.ret (v := some (.int (nar .byte cd))) X102 (fun h => by rw [Bd.returns] at h; cases h) Bd.notSynchronized (by rw [e102]; exact ⟨rfl, N0, rfl⟩) (by decide) (by decide) (fun fs hr => retN X102 hx (t := .byte) Bd.returns (by simp) (hb hby d_jdk_42_method_152_14) hr)
abbrev y_23 : MethodName := (⟨"java/lang/String", "coder", "()B"⟩ : MethodName)
theorem d_jdk_42_method_54_0 : decode jdk_42_method_54_code 0 = .ok (.aload_n 0, 1) := by decide +kernel
theorem d_jdk_42_method_54_1 : decode jdk_42_method_54_code 1 = .ok (.getfield 9, 3) := by decide +kernel
theorem d_jdk_42_method_54_4 : decode jdk_42_method_54_code 4 = .ok (.arraylength, 1) := by decide +kernel
theorem d_jdk_42_method_54_5 : decode jdk_42_method_54_code 5 = .ok (.aload_n 0, 1) := by decide +kernel
theorem pd_370 : parseMethodDescriptor "()B" = some ⟨[], some .byte⟩ := by decide +kernel
theorem d_jdk_42_method_54_6 : decode jdk_42_method_54_code 6 = .ok (.invokevirtual 335, 3) := by decide +kernel
theorem d_jdk_42_method_54_9 : decode jdk_42_method_54_code 9 = .ok (.ishr, 1) := by decide +kernel
theorem d_jdk_42_method_54_10 : decode jdk_42_method_54_code 10 = .ok (.ireturn, 1) := by decide +kernel
def Q_sle (Z : State) (x : Addr) (t : Addr) (kb : ClassId) (N2 : Int32) (vs : List Value) (cs : List Int32) (cd : Int32) (G1 : Int32) (h0 : Heap) (n0 : Nat) (vv_ : Option Value) (hh_ : Heap) (LL_ : List Loc) : Prop := vv_ = some (.int (Int32.ofNat cs.length)) ∧ Fr n0 LL_ ∧ hh_ = h0
set_option maxRecDepth 65536 in
set_option maxHeartbeats 40000000 in
theorem rm_sle (l : Launch) (Z : State) (a0 : Array Value) (hw : ∀ d ∈ tables_1, d.before a0 Z = true) (ws : List Jvm.Cond) (x : Addr) (t : Addr) (kb : ClassId) (N2 : Int32) (vs : List Value) (cs : List Int32) (cd : Int32) (G1 : Int32) (h0 : Heap) (n0 : Nat) (Z0 : n0 ≤ h0.size) (hc : StrChars.Road.CodA cs cd N2 vs) (l2 : cs.length ≤ 4000) (E0 : Exa Z h0 x "java/lang/String") (F0 : Fld Z h0 x "java/lang/String" "value" "[B" (.ref t)) (F1 : Fld Z h0 x "java/lang/String" "coder" "B" (.int cd)) (A0 : Arv Z h0 t kb .byte N2 vs (.int 0)) (S1 : Sta Z Z.heap "java/lang/String" "COMPACT_STRINGS" "Z" (.int G1)) (P1 : ¬ G1 = 0) (OL : Old Z n0 h0) :
    MetFree l (⟨"java/lang/String", "length", "()I"⟩ : MethodName) (head1 (Jvm.Cond.code (⟨"java/lang/String", "length", "()I"⟩ : MethodName) jdk_42_method_54_code 1 (some .int) :: ws) ({ frames := 1, cells := 0, slots := 0, locals := 13 } : Room)) (fun aa_ U => aa_ = #[(.ref x)] ∧ Z.Warmed39 U.vm ∧ U.heap = h0) (fun _ _ _ _ _ => True) (fun _ U o U' => ∃ vv_ LL_, o = .returned vv_ ∧ Q_sle Z x t kb N2 vs cs cd G1 h0 n0 vv_ U'.heap LL_ ∧ FrameEnd U o U' LL_ 0 0) := by
  refine MetFree.of_bodySF (plainFor_of_name pn_java_lang_String) hisR ?_
  intro p e s m args below meth c s₁ Bd hml0 hP hK
  obtain ⟨rfl, hZ, hh⟩ := hP
  have hx := Bd.exec
  have hby := Bd.bytes
  have hml : c.maxLocals = 1 := hml0
  have hown : s.vm.findClass "java/lang/String" = some m.cls := findClass_of_methodNamed Bd.named
  have hnm := (name_of_methodNamed Bd.named Bd.method).1
  have X0 : Stand p l e ({ frames := 1, cells := 0, slots := 0, locals := 13 } : Room) s m #[(.ref x)] below meth c s₁ [] 0 0 := Stand.of_body Bd
  have e0 : s₁.heap = h0 := by rw [← hh, Bd.state]; rfl
  have N0 := Fr.nil n0
  have ef : entryFrame m #[(.ref x)] 1 = mkF m 0 #[.val (.ref x)] [] := by first | (simp [entryFrame, mkF, argsToLocals, Value.category]; done) | rfl
  refine Fin.start (Q := Q_sle Z x t kb N2 vs cs cd G1 h0 n0) ef ?_
  refine Fin.by (fun tt_ kk_ => XS.aloadN X0.here hx rfl (hb hby d_jdk_42_method_54_0) rfl rfl kk_) ?_
  obtain ⟨T101, X101, e101, st101⟩ := getF X0 hx hZ hown (host := "") (Or.inl (w_ hw 26 rfl)) Via.refl e0 F0 (g := (mkF m 1 #[.val (.ref x)] [(.ref x)])) rfl rfl (hb hby d_jdk_42_method_54_1)
  refine Fin.by (fun tt_ kk_ => st101 tt_ kk_) ?_
  obtain ⟨cl102, Ar102, q102, S102, N102, H102, G102⟩ := id A0
  refine Fin.by (fun tt_ kk_ => X101.arraylength hx (by rw [e101]; exact Ar102.1) (State.isArrayOf_alike hZ.alike Ar102.2.1) (g := (mkF m 4 #[.val (.ref x)] [(.ref t)])) rfl rfl (hb hby d_jdk_42_method_54_4) _ kk_) ?_
  rw [len_of S102 N102]
  refine Fin.by (fun tt_ kk_ => XS.aloadN X101.here hx rfl (hb hby d_jdk_42_method_54_5) rfl rfl kk_) ?_
  obtain ⟨cq103, kq103, qa103, qb103, qc103⟩ := isOf hZ e101 E0
  obtain ⟨v103, _, ⟨T103, L103, k103, n103⟩, -, X103, ⟨Lc103, hQ103, l103, y103, z103⟩, st103⟩ := X101.virtualBack hx (y := y_23) (z := y_23) hown (mvT hZ (w_ hw 57 rfl)) (mvT hZ (w_ hw 58 rfl)) (notFace_of_selects (args := #[]) (mvT hZ (w_ hw 60 rfl))) (mvT hZ (w_ hw 60 rfl)) (mvT hZ (w_ hw 59 rfl)) (by decide) (backOf (W := 1) (rm_cdr l Z a0 hw [] x cd G1 h0 n0 Z0 F1 S1 P1 OL) hZ (w_ hw 61 rfl) (w_ hw 8 rfl) (by decide) (by decide)) qa103 qc103 (g := (mkF m 6 #[.val (.ref x)] [(.ref x), (.int N2)])) rfl (by rw [hml]; rfl) (Steps.refl _) (argsL := []) (rest := [(.int N2)]) (lenOf pd_370 rfl) rfl (by show 2 * 0 + _ ≤ _; exact Nat.le_of_eq rfl) (hb hby d_jdk_42_method_54_6) (fun _ _ => ⟨rfl, e101, (by decide : 0 + 0 ≤ _), (by decide : 0 + 0 ≤ _)⟩)
  dsimp only [Pt.U, Pt.locs, Pt.cells, Pt.slots] at X103 l103 y103 z103 st103 hQ103
  subst l103 y103 z103
  obtain ⟨rfl, Nq103, e103_⟩ := hQ103
  have N103_ := Fr.app N0 Nq103
  refine Fin.byS st103 ?_
  have e103 := e103_
  refine Fin.by (fun tt_ kk_ => XS.ishr X103.here hx rfl (hb hby d_jdk_42_method_54_9) rfl kk_) ?_
  show Fin _ _ _ _ _ _ _ (T103.setTop (mkF m 10 #[.val (.ref x)] [(.int (N2 >>> ((nar .byte cd) &&& 31)))]))
  exact Fin.ret (v := some (.int (N2 >>> ((nar .byte cd) &&& 31)))) X103 (fun h => by rw [Bd.returns] at h; cases h) Bd.notSynchronized (by rw [e103]; exact ⟨(congrArg (fun q => some (Value.int q)) (own_slen hc l2)), N103_, rfl⟩) (by decide) (by decide) (fun fs hr => retI X103 hx Bd.returns (hb hby d_jdk_42_method_54_10) hr)
theorem d_jdk_42_method_149_8 : decode jdk_42_method_149_code 8 = .ok (.aload_n 0, 1) := by decide +kernel
theorem d_jdk_42_method_149_9 : decode jdk_42_method_149_code 9 = .ok (.ldc 7, 2) := by decide +kernel
theorem d_jdk_42_method_149_11 : decode jdk_42_method_149_code 11 = .ok (.getfield 9, 3) := by decide +kernel
theorem d_jdk_42_method_149_14 : decode jdk_42_method_149_code 14 = .ok (.putfield 9, 3) := by decide +kernel
theorem d_jdk_42_method_149_17 : decode jdk_42_method_149_code 17 = .ok (.aload_n 0, 1) := by decide +kernel
theorem d_jdk_42_method_149_18 : decode jdk_42_method_149_code 18 = .ok (.ldc 7, 2) := by decide +kernel
theorem d_jdk_42_method_149_20 : decode jdk_42_method_149_code 20 = .ok (.getfield 15, 3) := by decide +kernel
theorem d_jdk_42_method_149_23 : decode jdk_42_method_149_code 23 = .ok (.putfield 15, 3) := by decide +kernel
theorem d_jdk_42_method_149_26 : decode jdk_42_method_149_code 26 = .ok (.return_, 1) := by decide +kernel
def Q_n4e (Z : State) (a : Addr) (b : Addr) (h0 : Heap) (n0 : Nat) (vv_ : Option Value) (hh_ : Heap) (LL_ : List Loc) : Prop := ∃ (t : Addr), ∃ (k : ClassId), vv_ = none ∧ Fr n0 LL_ ∧ Keep h0 hh_ [a] ∧ Exa Z hh_ a "java/lang/String" ∧ Fld Z hh_ a "java/lang/String" "value" "[B" (.ref t) ∧ Fld Z hh_ a "java/lang/String" "coder" "B" (.int (0 : Int32)) ∧ Arv Z hh_ t k .byte (0 : Int32) [] (.int 0)
set_option maxRecDepth 65536 in
set_option maxHeartbeats 40000000 in
theorem rm_n4e (l : Launch) (Z : State) (a0 : Array Value) (hw : ∀ d ∈ tables_1, d.before a0 Z = true) (ws : List Jvm.Cond) (a : Addr) (b : Addr) (h0 : Heap) (n0 : Nat) (Z0 : n0 ≤ h0.size) (E0 : Exa Z h0 a "java/lang/String") (F0 : Fld Z h0 a "java/lang/String" "value" "[B" .null) (F1 : Fld Z h0 a "java/lang/String" "coder" "B" (.int (0 : Int32))) (ga : n0 ≤ a) :
    MetFree l (⟨"java/lang/String", "<init>", "([CIILjava/lang/Void;)V"⟩ : MethodName) (head1 (Jvm.Cond.code (⟨"java/lang/String", "<init>", "([CIILjava/lang/Void;)V"⟩ : MethodName) jdk_42_method_149_code 6 none :: ws) ({ frames := 1, cells := 4, slots := 8, locals := 12 } : Room)) (fun aa_ U => aa_ = #[(.ref a), (.ref b), (.int (0 : Int32)), (.int (0 : Int32)), .null] ∧ Z.Warmed39 U.vm ∧ U.heap = h0 ∧ CHv Z consts_1 U.vm h0) (fun _ _ _ _ _ => True) (fun _ U o U' => ∃ vv_ LL_, o = .returned vv_ ∧ Q_n4e Z a b h0 n0 vv_ U'.heap LL_ ∧ CHr Z consts_1 U.vm U.heap U'.vm U'.heap ∧ ReturnedEndW U o U' LL_ 4 8) := by
  refine MetFree.of_bodySF (plainFor_of_name pn_java_lang_String) hisR ?_
  intro p e s m args below meth c s₁ Bd hml0 hP hK
  obtain ⟨rfl, hZ, hh, hC0⟩ := hP
  have hx := Bd.exec
  have hby := Bd.bytes
  have hml : c.maxLocals = 6 := hml0
  have hown : s.vm.findClass "java/lang/String" = some m.cls := findClass_of_methodNamed Bd.named
  have hnm := (name_of_methodNamed Bd.named Bd.method).1
  have X0 : Stand p l e ({ frames := 1, cells := 4, slots := 8, locals := 12 } : Room) (s.setVm s.vm) m #[(.ref a), (.ref b), (.int (0 : Int32)), (.int (0 : Int32)), .null] below meth c s₁ [] 0 0 := Stand.of_body Bd
  have e0 : s₁.heap = h0 := by rw [← hh, Bd.state]; rfl
  have N0 := Fr.nil n0
  have ef : entryFrame m #[(.ref a), (.ref b), (.int (0 : Int32)), (.int (0 : Int32)), .null] 6 = mkF m 0 #[.val (.ref a), .val (.ref b), .val (.int (0 : Int32)), .val (.int (0 : Int32)), .val .null, .unset] [] := by first | (simp [entryFrame, mkF, argsToLocals, Value.category]; done) | rfl
  have hS0 : s.Since s.vm h0.size := (State.WarmedH.refl s).since _
  have hk0 : h0.size ≤ h0.size := Nat.le_refl _
  have own_EW := own_EW0 hw
  have ch0 : CHr Z consts_1 s.vm h0 s.vm h0 := CHr.refl hC0
  refine FinH.start (Q := Q_n4e Z a b h0 n0) ef ?_
  refine FinH.by (fun tt_ kk_ => XS.aloadN X0.here hx rfl (hb hby d_jdk_42_method_149_0) rfl rfl kk_) ?_
  obtain ⟨T101, X101, e101, st101⟩ := initO X0 hx hZ hown (w_ hw 17 rfl) (w_ hw 18 rfl) (w_ hw 19 rfl) e0 (g := (mkF m 1 #[.val (.ref a), .val (.ref b), .val (.int 0), .val (.int 0), .val .null, .unset] [(.ref a)])) rfl (by rw [hml]; rfl) rfl (hb hby d_jdk_42_method_149_1) (by decide) (W := 0) (by show 2 * 0 + _ ≤ _; exact Nat.le_of_eq rfl) (by decide)
  refine FinH.by (fun tt_ kk_ => st101 tt_ kk_) ?_
  refine FinH.by (fun tt_ kk_ => XS.iloadN X101.here hx rfl (hb hby d_jdk_42_method_149_4) rfl kk_) ?_
  show FinH _ _ _ _ _ _ _ _ _ (T101.setTop (mkF m 5 #[.val (.ref a), .val (.ref b), .val (.int 0), .val (.int 0), .val .null, .unset] [(.int 0)]))
  refine FinH.by (fun tt_ kk_ => XS.ifNo X101.here hx rfl (hb hby d_jdk_42_method_149_5) rfl ((if0 _ _).trans (teq (rfl : (0 : Int32) = (0 : Int32))).2) kk_) ?_
  refine FinH.by (fun tt_ kk_ => XS.aloadN X101.here hx rfl (hb hby d_jdk_42_method_149_8) rfl rfl kk_) ?_
  obtain ⟨a102, T102, h102, k102, b102, kk102, X102, e102, E102, hS102, hk102, hZ102, hown102, xE102, xC102, xV102, xA102, la102, lb102, hC102, hL102, hne102, st102⟩ := ldcCH X101 hx hZ hown (w_ hw 20 rfl) (fun d hd => hw d (own_strAtoms d hd)) e101 hS0 hk0 own_EW (by decide) ch0.1 (vs := []) (z := (0 : Int32)) ⟨by decide, by rfl⟩ (by decide) rfl (g := (mkF m 9 #[.val (.ref a), .val (.ref b), .val (.int 0), .val (.int 0), .val .null, .unset] [(.ref a)])) rfl (hb hby d_jdk_42_method_149_9) (n := 0) (by decide) (by decide) (by decide) (by decide)
  refine FinH.by (fun tt_ kk_ => st102 tt_ kk_) ?_
  have ch103 : CHr Z consts_1 s.vm h0 T102.vm h102 := ch0.trans hC102
  obtain ⟨T104, X104, e104, st104⟩ := getF X102 hx hZ102 hown102 (host := "") (Or.inl (w_ hw 26 rfl)) Via.refl e102 xV102 (g := (mkF m 11 #[.val (.ref a), .val (.ref b), .val (.int 0), .val (.int 0), .val .null, .unset] [(.ref a102), (.ref a)])) rfl rfl (hb hby d_jdk_42_method_149_11)
  refine FinH.by (fun tt_ kk_ => st104 tt_ kk_) ?_
  have F105 : Fld Z h102 a "java/lang/String" "value" "[B" .null := (F0.ext E102)
  have E106 : Exa Z h102 a "java/lang/String" := (E0.ext E102)
  obtain ⟨T107, h107, X107, e107, W107, st107⟩ := putF X104 hx hZ102 hown102 (host := "") (Or.inl (w_ hw 26 rfl)) Via.refl e104 F105 E106 (Or.inr ⟨(w_ hw 22 rfl), rfl, hnm⟩) (w_ hw 7 rfl) (ty := (.array .byte)) (by decide) rfl rfl (g := (mkF m 14 #[.val (.ref a), .val (.ref b), .val (.int 0), .val (.int 0), .val .null, .unset] [(.ref b102), (.ref a)])) rfl rfl (hb hby d_jdk_42_method_149_14)
  refine FinH.by (fun tt_ kk_ => st107 tt_ kk_) ?_
  have N107_ := Fr.snoc X107 N0 ga
  have sf109 : Safe Z consts_1 T102.vm h102 a := (CHr.safe hC102 E0.lt (own_safe_blank hZ.alike E0 F0))
  have ch108 : CHr Z consts_1 s.vm h0 T102.vm h107 := ch103.trans (CHr.wr W107 sf109 ch103.1)
  refine FinH.by (fun tt_ kk_ => XS.aloadN X107.here hx rfl (hb hby d_jdk_42_method_149_17) rfl rfl kk_) ?_
  obtain ⟨a110, T110, h110, k110, b110, kk110, X110, e110, E110, hS110, hk110, hZ110, hown110, xE110, xC110, xV110, xA110, la110, lb110, hC110, hL110, hne110, st110⟩ := ldcCH X107 hx hZ102 hown102 (w_ hw 20 rfl) (fun d hd => hw d (own_strAtoms d hd)) e107 hS102 (Nat.le_trans hk102 (Keep.of_wr W107).1) own_EW (by decide) ch108.1 (vs := []) (z := (0 : Int32)) ⟨by decide, by rfl⟩ (by decide) rfl (g := (mkF m 18 #[.val (.ref a), .val (.ref b), .val (.int 0), .val (.int 0), .val .null, .unset] [(.ref a)])) rfl (hb hby d_jdk_42_method_149_18) (n := 0) (by decide) (by decide) (by decide) (by decide)
  refine FinH.by (fun tt_ kk_ => st110 tt_ kk_) ?_
  have ch111 : CHr Z consts_1 s.vm h0 T110.vm h110 := ch108.trans hC110
  obtain ⟨T112, X112, e112, st112⟩ := getF X110 hx hZ110 hown110 (host := "") (Or.inl (w_ hw 27 rfl)) Via.refl e110 xC110 (g := (mkF m 20 #[.val (.ref a), .val (.ref b), .val (.int 0), .val (.int 0), .val .null, .unset] [(.ref a110), (.ref a)])) rfl rfl (hb hby d_jdk_42_method_149_20)
  refine FinH.by (fun tt_ kk_ => st112 tt_ kk_) ?_
  have F113 : Fld Z h110 a "java/lang/String" "coder" "B" (.int (0 : Int32)) := (((F1.ext E102).other W107 (Or.inr (slot_ne (Or.inr (w_ hw 23 rfl)) (Or.inr (w_ hw 22 rfl)) (by decide) (t := .byte) (t' := (.array .byte)) (by decide) (by decide)))).ext E110)
  have E114 : Exa Z h110 a "java/lang/String" := ((E106.wr W107).ext E110)
  obtain ⟨T115, h115, X115, e115, W115, st115⟩ := putFN X112 hx hZ110 hown110 (w_ hw 27 rfl) Via.refl e112 F113 E114 (Or.inr ⟨(w_ hw 23 rfl), rfl, hnm⟩) (w_ hw 7 rfl) (ty := .byte) (v' := .int (0 : Int32)) (by decide) rfl rfl (g := (mkF m 23 #[.val (.ref a), .val (.ref b), .val (.int 0), .val (.int 0), .val .null, .unset] [(.int 0), (.ref a)])) rfl rfl (hb hby d_jdk_42_method_149_23)
  refine FinH.by (fun tt_ kk_ => st115 tt_ kk_) ?_
  have N115_ := Fr.snoc X115 N107_ ga
  have sf117 : Safe Z consts_1 T102.vm h107 a := (Safe.wr W107 sf109 ch103.1 sf109)
  have sf118 : Safe Z consts_1 T110.vm h110 a := (CHr.safe hC110 (Nat.lt_of_lt_of_le E0.lt (Nat.le_trans E102.1 (Keep.of_wr W107).1)) sf117)
  have ch116 : CHr Z consts_1 s.vm h0 T110.vm h115 := ch111.trans (CHr.wr W115 sf118 ch111.1)
  have kp119 : Keep h0 h102 [a] := (Keep.refl h0 [a]).ext E102
  have kp120 : Keep h0 h107 [a] := kp119.wr W107 (Or.inl (List.mem_of_getElem? (i := 0) rfl))
  have kp121 : Keep h0 h110 [a] := kp120.ext E110
  have kp122 : Keep h0 h115 [a] := kp121.wr W115 (Or.inl (List.mem_of_getElem? (i := 0) rfl))
  have E123 : Exa Z h115 a "java/lang/String" := (E114.wr W115)
  have F124 : Fld Z h115 a "java/lang/String" "value" "[B" (.ref b102) := (((F105.same W107).ext E110).other W115 (Or.inr (slot_ne (Or.inr (w_ hw 22 rfl)) (Or.inr (w_ hw 23 rfl)) (by decide) (t := (.array .byte)) (t' := .byte) (by decide) (by decide))))
  have ne125 : a ≠ b102 := (hne102 a sf109).2
  have A126 : Arv Z h115 b102 kk102 .byte (0 : Int32) [] (.int 0) := (((xA102.other W107 (Ne.symm ne125)).ext E110).other W115 (Ne.symm ne125))
  show FinH _ _ _ _ _ _ _ _ _ (T115.setTop (mkF m 26 #[.val (.ref a), .val (.ref b), .val (.int 0), .val (.int 0), .val .null, .unset] []))
  exact FinH.ret (v := none) X115 hS110 (by rw [e115]; exact (Nat.le_trans hk110 (Keep.of_wr W115).1)) (fun _ => rfl) Bd.notSynchronized (by rw [e115]; exact ⟨b102, kk102, rfl, N115_, kp122, E123, F124, (F113.same W115), A126⟩) (by rw [hh, e115]; exact ch116.trans (CHv.at X115 hZ110 own_EW ch116.1)) (by decide) (by decide) (fun fs hr => X115.returnOut hx Bd.returns (hb hby d_jdk_42_method_149_26) hr)
def Q_n1e (Z : State) (a : Addr) (b : Addr) (kc : ClassId) (h0 : Heap) (n0 : Nat) (vv_ : Option Value) (hh_ : Heap) (LL_ : List Loc) : Prop := ∃ (t : Addr), ∃ (k : ClassId), vv_ = none ∧ Fr n0 LL_ ∧ Keep h0 hh_ [a] ∧ Exa Z hh_ a "java/lang/String" ∧ Fld Z hh_ a "java/lang/String" "value" "[B" (.ref t) ∧ Fld Z hh_ a "java/lang/String" "coder" "B" (.int (0 : Int32)) ∧ Arv Z hh_ t k .byte (0 : Int32) [] (.int 0)
set_option maxRecDepth 65536 in
set_option maxHeartbeats 40000000 in
theorem rm_n1e (l : Launch) (Z : State) (a0 : Array Value) (hw : ∀ d ∈ tables_1, d.before a0 Z = true) (ws : List Jvm.Cond) (a : Addr) (b : Addr) (kc : ClassId) (h0 : Heap) (n0 : Nat) (Z0 : n0 ≤ h0.size) (E0 : Exa Z h0 a "java/lang/String") (F0 : Fld Z h0 a "java/lang/String" "value" "[B" .null) (F1 : Fld Z h0 a "java/lang/String" "coder" "B" (.int (0 : Int32))) (ga : n0 ≤ a) (A0 : Arv Z h0 b kc .char (0 : Int32) [] (.int (0 : Int32))) :
    MetFree l (⟨"java/lang/String", "<init>", "([C)V"⟩ : MethodName) (head1 (Jvm.Cond.code (⟨"java/lang/String", "<init>", "([C)V"⟩ : MethodName) jdk_42_method_3_code 2 none :: ws) ({ frames := 2, cells := 4, slots := 8, locals := 29 } : Room)) (fun aa_ U => aa_ = #[(.ref a), (.ref b)] ∧ Z.Warmed39 U.vm ∧ U.heap = h0 ∧ CHv Z consts_1 U.vm h0) (fun _ _ _ _ _ => True) (fun _ U o U' => ∃ vv_ LL_, o = .returned vv_ ∧ Q_n1e Z a b kc h0 n0 vv_ U'.heap LL_ ∧ CHr Z consts_1 U.vm U.heap U'.vm U'.heap ∧ ReturnedEndW U o U' LL_ 4 8) := by
  refine MetFree.of_bodySF (plainFor_of_name pn_java_lang_String) hisR ?_
  intro p e s m args below meth c s₁ Bd hml0 hP hK
  obtain ⟨rfl, hZ, hh, hC0⟩ := hP
  have hx := Bd.exec
  have hby := Bd.bytes
  have hml : c.maxLocals = 2 := hml0
  have hown : s.vm.findClass "java/lang/String" = some m.cls := findClass_of_methodNamed Bd.named
  have hnm := (name_of_methodNamed Bd.named Bd.method).1
  have X0 : Stand p l e ({ frames := 2, cells := 4, slots := 8, locals := 29 } : Room) (s.setVm s.vm) m #[(.ref a), (.ref b)] below meth c s₁ [] 0 0 := Stand.of_body Bd
  have e0 : s₁.heap = h0 := by rw [← hh, Bd.state]; rfl
  have N0 := Fr.nil n0
  have ef : entryFrame m #[(.ref a), (.ref b)] 2 = mkF m 0 #[.val (.ref a), .val (.ref b)] [] := by first | (simp [entryFrame, mkF, argsToLocals, Value.category]; done) | rfl
  have hS0 : s.Since s.vm h0.size := (State.WarmedH.refl s).since _
  have hk0 : h0.size ≤ h0.size := Nat.le_refl _
  have own_EW := own_EW0 hw
  have ch0 : CHr Z consts_1 s.vm h0 s.vm h0 := CHr.refl hC0
  refine FinH.start (Q := Q_n1e Z a b kc h0 n0) ef ?_
  refine FinH.by (fun tt_ kk_ => XS.aloadN X0.here hx rfl (hb hby d_jdk_42_method_3_0) rfl rfl (XS.aloadN X0.here hx rfl (hb hby d_jdk_42_method_3_1) rfl rfl (XS.iconst X0.here hx rfl (hb hby d_jdk_42_method_3_2) (XS.aloadN X0.here hx rfl (hb hby d_jdk_42_method_3_3) rfl rfl kk_)))) ?_
  obtain ⟨cl101, Ar101, q101, S101, N101, H101, G101⟩ := id A0
  refine FinH.by (fun tt_ kk_ => X0.arraylength hx (by rw [e0]; exact Ar101.1) (State.isArrayOf_alike hZ.alike Ar101.2.1) (g := (mkF m 4 #[.val (.ref a), .val (.ref b)] [(.ref b), (.int 0), (.ref b), (.ref a)])) rfl rfl (hb hby d_jdk_42_method_3_4) _ kk_) ?_
  rw [len_of S101 N101]
  refine FinH.by (fun tt_ kk_ => XS.aconstNull X0.here hx rfl (hb hby d_jdk_42_method_3_5) kk_) ?_
  obtain ⟨v102, _, ⟨T102, L102, k102, n102⟩, -, X102, hS102, hg102, ⟨Lc102, hQ102, l102, y102, z102, hC102⟩, st102⟩ := X0.specialBackS hx (y := y_15) rfl hown (mvT hZ (w_ hw 13 rfl)) (mvT hZ (w_ hw 14 rfl)) (mvT hZ (w_ hw 16 rfl)) (by decide) (backOfSH (W := 0) (rm_n4e l Z a0 hw [] a b h0 n0 Z0 E0 F0 F1 ga) hZ (w_ hw 16 rfl) (w_ hw 8 rfl) (by decide) (by decide) own_EW ch0.1) (g := (mkF m 6 #[.val (.ref a), .val (.ref b)] [.null, (.int 0), (.int 0), (.ref b), (.ref a)])) rfl (by rw [hml]; rfl) (Steps.refl _) (a := a) (argsL := [(.ref b), (.int 0), (.int 0), .null]) (rest := []) (lenOf pd_243 rfl) rfl (by show 2 * 0 + _ ≤ _; exact Nat.le_of_eq rfl) (hb hby d_jdk_42_method_3_6) (fun _ _ => ⟨rfl, e0, (by decide : 0 + 4 ≤ _), (by decide : 0 + 8 ≤ _)⟩)
  dsimp only [Pt.U, Pt.locs, Pt.cells, Pt.slots] at X102 l102 y102 z102 st102 hQ102 hS102 hg102 hC102
  subst l102 y102 z102
  obtain ⟨t103, k104, rfl, Nq102, p102_0, p102_1, p102_2, p102_3, p102_4⟩ := hQ102
  have N102_ := Fr.app N0 Nq102
  refine FinH.byS st102 ?_
  obtain ⟨X102w, hS102w, hZ102, hown102⟩ := rebS hS0 (by rw [e0]; exact hk0) X102 hS102 hg102 hZ hown
  have ch105 : CHr Z consts_1 s.vm h0 T102.vm T102.heap := ch0.trans hC102
  have kp106 : Keep h0 T102.heap [a] := (Keep.refl h0 [a]).trans p102_0 (allS (Or.inl (List.mem_of_getElem? (i := 0) rfl)) all0)
  show FinH _ _ _ _ _ _ _ _ _ (T102.setTop (mkF m 9 #[.val (.ref a), .val (.ref b)] []))
  exact FinH.ret (v := none) X102w hS102w ((Nat.le_refl _)) (fun _ => rfl) Bd.notSynchronized (⟨t103, k104, rfl, N102_, kp106, p102_1, p102_2, p102_3, p102_4⟩) (by rw [hh]; exact ch105.trans (CHv.at X102w hZ102 own_EW ch105.1)) (by decide) (by decide) (fun fs hr => X102w.returnOut hx Bd.returns (hb hby d_jdk_42_method_3_9) hr)
abbrev y_24 : MethodName := (⟨"java/lang/String", "<init>", "([C)V"⟩ : MethodName)
theorem d_method_3_0 : decode method_3_code 0 = .ok (.iload_n 0, 1) := by decide +kernel
theorem d_method_3_1 : decode method_3_code 1 = .ok (.ifCond .ne 14, 3) := by decide +kernel
theorem d_method_3_4 : decode method_3_code 4 = .ok (.new 7, 3) := by decide +kernel
theorem d_method_3_7 : decode method_3_code 7 = .ok (.dup, 1) := by decide +kernel
theorem d_method_3_8 : decode method_3_code 8 = .ok (.iconst 0, 1) := by decide +kernel
theorem d_method_3_9 : decode method_3_code 9 = .ok (.newarray .char, 2) := by decide +kernel
theorem pd_389 : parseMethodDescriptor "([C)V" = some ⟨[(.array .char)], none⟩ := by decide +kernel
theorem d_method_3_11 : decode method_3_code 11 = .ok (.invokespecial 9, 3) := by decide +kernel
theorem d_method_3_14 : decode method_3_code 14 = .ok (.areturn, 1) := by decide +kernel
theorem d_method_3_15 : decode method_3_code 15 = .ok (.iload_n 0, 1) := by decide +kernel
theorem d_method_3_16 : decode method_3_code 16 = .ok (.iconst 1, 1) := by decide +kernel
theorem d_method_3_17 : decode method_3_code 17 = .ok (.if_icmp .ne 18, 3) := by decide +kernel
theorem d_method_3_20 : decode method_3_code 20 = .ok (.new 7, 3) := by decide +kernel
theorem d_method_3_23 : decode method_3_code 23 = .ok (.dup, 1) := by decide +kernel
theorem d_method_3_24 : decode method_3_code 24 = .ok (.iconst 1, 1) := by decide +kernel
theorem d_method_3_25 : decode method_3_code 25 = .ok (.newarray .char, 2) := by decide +kernel
theorem d_method_3_27 : decode method_3_code 27 = .ok (.dup, 1) := by decide +kernel
theorem d_method_3_28 : decode method_3_code 28 = .ok (.iconst 0, 1) := by decide +kernel
theorem d_method_3_29 : decode method_3_code 29 = .ok (.iload_n 1, 1) := by decide +kernel
theorem d_method_3_30 : decode method_3_code 30 = .ok (.castore, 1) := by decide +kernel
theorem d_method_3_31 : decode method_3_code 31 = .ok (.invokespecial 9, 3) := by decide +kernel
theorem d_method_3_34 : decode method_3_code 34 = .ok (.areturn, 1) := by decide +kernel
theorem d_method_3_35 : decode method_3_code 35 = .ok (.iload_n 0, 1) := by decide +kernel
theorem d_method_3_36 : decode method_3_code 36 = .ok (.iconst 2, 1) := by decide +kernel
theorem d_method_3_37 : decode method_3_code 37 = .ok (.if_icmp .ne 22, 3) := by decide +kernel
theorem d_method_3_40 : decode method_3_code 40 = .ok (.new 7, 3) := by decide +kernel
theorem d_method_3_43 : decode method_3_code 43 = .ok (.dup, 1) := by decide +kernel
theorem d_method_3_44 : decode method_3_code 44 = .ok (.iconst 2, 1) := by decide +kernel
theorem d_method_3_45 : decode method_3_code 45 = .ok (.newarray .char, 2) := by decide +kernel
theorem d_method_3_47 : decode method_3_code 47 = .ok (.dup, 1) := by decide +kernel
theorem d_method_3_48 : decode method_3_code 48 = .ok (.iconst 0, 1) := by decide +kernel
theorem d_method_3_49 : decode method_3_code 49 = .ok (.iload_n 1, 1) := by decide +kernel
theorem d_method_3_50 : decode method_3_code 50 = .ok (.castore, 1) := by decide +kernel
theorem d_method_3_51 : decode method_3_code 51 = .ok (.dup, 1) := by decide +kernel
theorem d_method_3_52 : decode method_3_code 52 = .ok (.iconst 1, 1) := by decide +kernel
theorem d_method_3_53 : decode method_3_code 53 = .ok (.iload_n 2, 1) := by decide +kernel
theorem d_method_3_54 : decode method_3_code 54 = .ok (.castore, 1) := by decide +kernel
theorem d_method_3_55 : decode method_3_code 55 = .ok (.invokespecial 9, 3) := by decide +kernel
theorem d_method_3_58 : decode method_3_code 58 = .ok (.areturn, 1) := by decide +kernel
theorem d_method_3_59 : decode method_3_code 59 = .ok (.iload_n 0, 1) := by decide +kernel
theorem d_method_3_60 : decode method_3_code 60 = .ok (.iconst 3, 1) := by decide +kernel
theorem d_method_3_61 : decode method_3_code 61 = .ok (.if_icmp .ne 26, 3) := by decide +kernel
theorem d_method_3_64 : decode method_3_code 64 = .ok (.new 7, 3) := by decide +kernel
theorem d_method_3_67 : decode method_3_code 67 = .ok (.dup, 1) := by decide +kernel
theorem d_method_3_68 : decode method_3_code 68 = .ok (.iconst 3, 1) := by decide +kernel
theorem d_method_3_69 : decode method_3_code 69 = .ok (.newarray .char, 2) := by decide +kernel
theorem d_method_3_71 : decode method_3_code 71 = .ok (.dup, 1) := by decide +kernel
theorem d_method_3_72 : decode method_3_code 72 = .ok (.iconst 0, 1) := by decide +kernel
theorem d_method_3_73 : decode method_3_code 73 = .ok (.iload_n 1, 1) := by decide +kernel
theorem d_method_3_74 : decode method_3_code 74 = .ok (.castore, 1) := by decide +kernel
theorem d_method_3_75 : decode method_3_code 75 = .ok (.dup, 1) := by decide +kernel
theorem d_method_3_76 : decode method_3_code 76 = .ok (.iconst 1, 1) := by decide +kernel
theorem d_method_3_77 : decode method_3_code 77 = .ok (.iload_n 2, 1) := by decide +kernel
theorem d_method_3_78 : decode method_3_code 78 = .ok (.castore, 1) := by decide +kernel
theorem d_method_3_79 : decode method_3_code 79 = .ok (.dup, 1) := by decide +kernel
theorem d_method_3_80 : decode method_3_code 80 = .ok (.iconst 2, 1) := by decide +kernel
theorem d_method_3_81 : decode method_3_code 81 = .ok (.iload_n 3, 1) := by decide +kernel
theorem d_method_3_82 : decode method_3_code 82 = .ok (.castore, 1) := by decide +kernel
theorem d_method_3_83 : decode method_3_code 83 = .ok (.invokespecial 9, 3) := by decide +kernel
theorem d_method_3_86 : decode method_3_code 86 = .ok (.areturn, 1) := by decide +kernel
theorem d_method_3_87 : decode method_3_code 87 = .ok (.iload_n 0, 1) := by decide +kernel
theorem d_method_3_88 : decode method_3_code 88 = .ok (.iconst 4, 1) := by decide +kernel
theorem d_method_3_89 : decode method_3_code 89 = .ok (.if_icmp .ne 31, 3) := by decide +kernel
theorem d_method_3_92 : decode method_3_code 92 = .ok (.new 7, 3) := by decide +kernel
theorem d_method_3_95 : decode method_3_code 95 = .ok (.dup, 1) := by decide +kernel
theorem d_method_3_96 : decode method_3_code 96 = .ok (.iconst 4, 1) := by decide +kernel
theorem d_method_3_97 : decode method_3_code 97 = .ok (.newarray .char, 2) := by decide +kernel
theorem d_method_3_99 : decode method_3_code 99 = .ok (.dup, 1) := by decide +kernel
theorem d_method_3_100 : decode method_3_code 100 = .ok (.iconst 0, 1) := by decide +kernel
theorem d_method_3_101 : decode method_3_code 101 = .ok (.iload_n 1, 1) := by decide +kernel
theorem d_method_3_102 : decode method_3_code 102 = .ok (.castore, 1) := by decide +kernel
theorem d_method_3_103 : decode method_3_code 103 = .ok (.dup, 1) := by decide +kernel
theorem d_method_3_104 : decode method_3_code 104 = .ok (.iconst 1, 1) := by decide +kernel
theorem d_method_3_105 : decode method_3_code 105 = .ok (.iload_n 2, 1) := by decide +kernel
theorem d_method_3_106 : decode method_3_code 106 = .ok (.castore, 1) := by decide +kernel
theorem d_method_3_107 : decode method_3_code 107 = .ok (.dup, 1) := by decide +kernel
theorem d_method_3_108 : decode method_3_code 108 = .ok (.iconst 2, 1) := by decide +kernel
theorem d_method_3_109 : decode method_3_code 109 = .ok (.iload_n 3, 1) := by decide +kernel
theorem d_method_3_110 : decode method_3_code 110 = .ok (.castore, 1) := by decide +kernel
theorem d_method_3_111 : decode method_3_code 111 = .ok (.dup, 1) := by decide +kernel
theorem d_method_3_112 : decode method_3_code 112 = .ok (.iconst 3, 1) := by decide +kernel
theorem d_method_3_113 : decode method_3_code 113 = .ok (.iload 4, 2) := by decide +kernel
theorem d_method_3_115 : decode method_3_code 115 = .ok (.castore, 1) := by decide +kernel
theorem d_method_3_116 : decode method_3_code 116 = .ok (.invokespecial 9, 3) := by decide +kernel
theorem d_method_3_119 : decode method_3_code 119 = .ok (.areturn, 1) := by decide +kernel
theorem d_method_3_120 : decode method_3_code 120 = .ok (.new 7, 3) := by decide +kernel
theorem d_method_3_123 : decode method_3_code 123 = .ok (.dup, 1) := by decide +kernel
theorem d_method_3_124 : decode method_3_code 124 = .ok (.iconst 5, 1) := by decide +kernel
theorem d_method_3_125 : decode method_3_code 125 = .ok (.newarray .char, 2) := by decide +kernel
theorem d_method_3_127 : decode method_3_code 127 = .ok (.dup, 1) := by decide +kernel
theorem d_method_3_128 : decode method_3_code 128 = .ok (.iconst 0, 1) := by decide +kernel
theorem d_method_3_129 : decode method_3_code 129 = .ok (.iload_n 1, 1) := by decide +kernel
theorem d_method_3_130 : decode method_3_code 130 = .ok (.castore, 1) := by decide +kernel
theorem d_method_3_131 : decode method_3_code 131 = .ok (.dup, 1) := by decide +kernel
theorem d_method_3_132 : decode method_3_code 132 = .ok (.iconst 1, 1) := by decide +kernel
theorem d_method_3_133 : decode method_3_code 133 = .ok (.iload_n 2, 1) := by decide +kernel
theorem d_method_3_134 : decode method_3_code 134 = .ok (.castore, 1) := by decide +kernel
theorem d_method_3_135 : decode method_3_code 135 = .ok (.dup, 1) := by decide +kernel
theorem d_method_3_136 : decode method_3_code 136 = .ok (.iconst 2, 1) := by decide +kernel
theorem d_method_3_137 : decode method_3_code 137 = .ok (.iload_n 3, 1) := by decide +kernel
theorem d_method_3_138 : decode method_3_code 138 = .ok (.castore, 1) := by decide +kernel
theorem d_method_3_139 : decode method_3_code 139 = .ok (.dup, 1) := by decide +kernel
theorem d_method_3_140 : decode method_3_code 140 = .ok (.iconst 3, 1) := by decide +kernel
theorem d_method_3_141 : decode method_3_code 141 = .ok (.iload 4, 2) := by decide +kernel
theorem d_method_3_143 : decode method_3_code 143 = .ok (.castore, 1) := by decide +kernel
theorem d_method_3_144 : decode method_3_code 144 = .ok (.dup, 1) := by decide +kernel
theorem d_method_3_145 : decode method_3_code 145 = .ok (.iconst 4, 1) := by decide +kernel
theorem d_method_3_146 : decode method_3_code 146 = .ok (.iload 5, 2) := by decide +kernel
theorem d_method_3_148 : decode method_3_code 148 = .ok (.castore, 1) := by decide +kernel
theorem d_method_3_149 : decode method_3_code 149 = .ok (.invokespecial 9, 3) := by decide +kernel
theorem d_method_3_152 : decode method_3_code 152 = .ok (.areturn, 1) := by decide +kernel
theorem pn_com_example_colonnade_colonnade_TokenValuesAsciiLowerCasePinLaw : plainName "com/example/colonnade/colonnade/TokenValuesAsciiLowerCasePinLaw" = true := by first | (simp [plainName, overriddenIn]; done) | decide +kernel
def Q_mak (Z : State) (nn : Int32) (c0 : Int32) (c1 : Int32) (c2 : Int32) (c3 : Int32) (c4 : Int32) (G1 : Int32) (h0 : Heap) (n0 : Nat) (vv_ : Option Value) (hh_ : Heap) (LL_ : List Loc) : Prop := ∃ (y : Addr), ∃ (ty : Addr), ∃ (ky : ClassId), ∃ (Ny : Int32), ∃ (vy : List Value), ∃ (cy : Int32), vv_ = some (.ref y) ∧ Fr n0 LL_ ∧ Keep h0 hh_ [] ∧ Exa Z hh_ y "java/lang/String" ∧ Fld Z hh_ y "java/lang/String" "value" "[B" (.ref ty) ∧ Fld Z hh_ y "java/lang/String" "coder" "B" (.int cy) ∧ Arv Z hh_ ty ky .byte Ny vy (.int 0) ∧ (StrChars.Road.CodA (own_mk nn (nar .char c0) (nar .char c1) (nar .char c2) (nar .char c3) (nar .char c4)) cy Ny vy)
set_option maxRecDepth 65536 in
set_option maxHeartbeats 40000000 in
theorem rm_mak (l : Launch) (Z : State) (a0 : Array Value) (hw : ∀ d ∈ tables_1, d.before a0 Z = true) (ws : List Jvm.Cond) (nn : Int32) (c0 : Int32) (c1 : Int32) (c2 : Int32) (c3 : Int32) (c4 : Int32) (G1 : Int32) (h0 : Heap) (n0 : Nat) (Z0 : n0 ≤ h0.size) (S1 : Sta Z Z.heap "java/lang/String" "COMPACT_STRINGS" "Z" (.int G1)) (P1 : ¬ G1 = 0) (S6 : Sta Z Z.heap "java/lang/StringUTF16" "$assertionsDisabled" "Z" (.int (1 : Int32))) (S7 : Sta Z Z.heap "java/lang/StringUTF16" "HI_BYTE_SHIFT" "I" (.int (0 : Int32))) (S8 : Sta Z Z.heap "java/lang/StringUTF16" "LO_BYTE_SHIFT" "I" (.int (8 : Int32))) (OL : Old Z n0 h0) :
    MetFree l (⟨"com/example/colonnade/colonnade/TokenValuesAsciiLowerCasePinLaw", "make", "(ICCCCC)Ljava/lang/String;"⟩ : MethodName) (head1 (Jvm.Cond.code (⟨"com/example/colonnade/colonnade/TokenValuesAsciiLowerCasePinLaw", "make", "(ICCCCC)Ljava/lang/String;"⟩ : MethodName) method_3_code 6 (some (.object "java/lang/String")) :: ws) ({ frames := 6, cells := 6, slots := 24, locals := 88 } : Room)) (fun aa_ U => aa_ = #[(.int nn), (.int c0), (.int c1), (.int c2), (.int c3), (.int c4)] ∧ Z.Warmed39 U.vm ∧ U.heap = h0 ∧ CHv Z consts_1 U.vm h0) (fun _ _ _ _ _ => True) (fun _ U o U' => ∃ vv_ LL_, o = .returned vv_ ∧ Q_mak Z nn c0 c1 c2 c3 c4 G1 h0 n0 vv_ U'.heap LL_ ∧ CHr Z consts_1 U.vm U.heap U'.vm U'.heap ∧ ReturnedEndW U o U' LL_ 6 24) := by
  refine MetFree.of_bodySF (plainFor_of_name pn_com_example_colonnade_colonnade_TokenValuesAsciiLowerCasePinLaw) hisR ?_
  intro p e s m args below meth c s₁ Bd hml0 hP hK
  obtain ⟨rfl, hZ, hh, hC0⟩ := hP
  have hx := Bd.exec
  have hby := Bd.bytes
  have hml : c.maxLocals = 6 := hml0
  have hown : s.vm.findClass "com/example/colonnade/colonnade/TokenValuesAsciiLowerCasePinLaw" = some m.cls := findClass_of_methodNamed Bd.named
  have hnm := (name_of_methodNamed Bd.named Bd.method).1
  have X0 : Stand p l e ({ frames := 6, cells := 6, slots := 24, locals := 88 } : Room) (s.setVm s.vm) m #[(.int nn), (.int c0), (.int c1), (.int c2), (.int c3), (.int c4)] below meth c s₁ [] 0 0 := Stand.of_body Bd
  have e0 : s₁.heap = h0 := by rw [← hh, Bd.state]; rfl
  have N0 := Fr.nil n0
  have ef : entryFrame m #[(.int nn), (.int c0), (.int c1), (.int c2), (.int c3), (.int c4)] 6 = mkF m 0 #[.val (.int nn), .val (.int c0), .val (.int c1), .val (.int c2), .val (.int c3), .val (.int c4)] [] := by first | (simp [entryFrame, mkF, argsToLocals, Value.category]; done) | rfl
  have hS0 : s.Since s.vm h0.size := (State.WarmedH.refl s).since _
  have hk0 : h0.size ≤ h0.size := Nat.le_refl _
  have own_EW := own_EW0 hw
  have ch0 : CHr Z consts_1 s.vm h0 s.vm h0 := CHr.refl hC0
  refine FinH.start (Q := Q_mak Z nn c0 c1 c2 c3 c4 G1 h0 n0) ef ?_
  refine FinH.by (fun tt_ kk_ => XS.iloadN X0.here hx rfl (hb hby d_method_3_0) rfl kk_) ?_
  show FinH _ _ _ _ _ _ _ _ _ (s₁.setTop (mkF m 1 #[.val (.int nn), .val (.int c0), .val (.int c1), .val (.int c2), .val (.int c3), .val (.int c4)] [(.int nn)]))
  by_cases hm0 : nn = (0 : Int32)
  · refine FinH.by (fun tt_ kk_ => XS.ifNo X0.here hx rfl (hb hby d_method_3_1) rfl ((if0 _ _).trans (teq hm0).2) kk_) ?_
    obtain ⟨T101, h101, X101, e101, E101, A101, D101, -, st101⟩ := newO X0 hx hZ hown (w_ hw 6 rfl) (w_ hw 7 rfl) (w_ hw 8 rfl) e0 (g := (mkF m 4 #[.val (.int nn), .val (.int c0), .val (.int c1), .val (.int c2), .val (.int c3), .val (.int c4)] [])) rfl (hb hby d_method_3_4) (by decide) (by decide)
    obtain ⟨a101, g101⟩ : ∃ z, z = h0.size := ⟨_, rfl⟩
    rw [← g101] at A101 D101 st101
    refine FinH.by (fun tt_ kk_ => st101 tt_ kk_) ?_
    have ch102 : CHr Z consts_1 s.vm h0 s.vm h101 := ch0.trans (CHr.ext E101 ch0.1)
    refine FinH.by (fun tt_ kk_ => XS.dup X101.here hx rfl (hb hby d_method_3_7) rfl rfl (XS.iconst X101.here hx rfl (hb hby d_method_3_8) kk_)) ?_
    obtain ⟨T103, h103, k103, X103, e103, E103, A103, st103⟩ := newP X101 hx hZ (w_ hw 9 rfl) e101 (g := (mkF m 9 #[.val (.int nn), .val (.int c0), .val (.int c1), .val (.int c2), .val (.int c3), .val (.int c4)] [(.int 0), (.ref a101), (.ref a101)])) rfl (hb hby d_method_3_9) rfl (by decide) (cap := 0) (by decide) (by decide) (by decide) (by decide)
    obtain ⟨a103, g103⟩ : ∃ z, z = h101.size := ⟨_, rfl⟩
    rw [← g103] at A103 st103
    refine FinH.by (fun tt_ kk_ => st103 tt_ kk_) ?_
    have ch104 : CHr Z consts_1 s.vm h0 s.vm h103 := ch102.trans (CHr.ext E103 ch102.1)
    have V103 : Arv Z h103 a103 k103 .char (0 : Int32) [] (.int (0 : Int32)) := Arv.new A103 (by decide)
    have E105 : Exa Z h103 a101 "java/lang/String" := (A101.ext E103)
    have F106 : Fld Z h103 a101 "java/lang/String" "value" "[B" .null := ((D101 (Or.inr (w_ hw 22 rfl)) (ty := (.array .byte)) (by decide) : Fld Z h101 a101 "java/lang/String" "value" "[B" .null).ext E103)
    have F107 : Fld Z h103 a101 "java/lang/String" "coder" "B" (.int (0 : Int32)) := ((D101 (Or.inr (w_ hw 23 rfl)) (ty := .byte) (by decide) : Fld Z h101 a101 "java/lang/String" "coder" "B" (.int (0 : Int32))).ext E103)
    have g108 : n0 ≤ a101 := Nat.le_trans Z0 (Nat.le_of_eq g101.symm)
    have z109 : n0 ≤ h103.size := Nat.le_trans Z0 (Nat.le_trans E101.1 E103.1)
    obtain ⟨v110, _, ⟨T110, L110, k110, n110⟩, -, X110, hS110, hg110, ⟨Lc110, hQ110, l110, y110, z110, hC110⟩, st110⟩ := X103.specialBackS hx (y := y_24) rfl hown (mvT hZ (w_ hw 10 rfl)) (mvT hZ (w_ hw 11 rfl)) (mvT hZ (w_ hw 12 rfl)) (by decide) (backOfSH (W := 1) (rm_n1e l Z a0 hw [] a101 a103 k103 h103 n0 z109 E105 F106 F107 g108 V103) hZ (w_ hw 12 rfl) (w_ hw 8 rfl) (by decide) (by decide) own_EW ch104.1) (g := (mkF m 11 #[.val (.int nn), .val (.int c0), .val (.int c1), .val (.int c2), .val (.int c3), .val (.int c4)] [(.ref a103), (.ref a101), (.ref a101)])) rfl (by rw [hml]; rfl) (Steps.refl _) (a := a101) (argsL := [(.ref a103)]) (rest := [(.ref a101)]) (lenOf pd_389 rfl) rfl (by show 2 * 0 + _ ≤ _; exact Nat.le_of_eq rfl) (hb hby d_method_3_11) (fun _ _ => ⟨rfl, e103, (by decide : 2 + 4 ≤ _), (by decide : 4 + 8 ≤ _)⟩)
    dsimp only [Pt.U, Pt.locs, Pt.cells, Pt.slots] at X110 l110 y110 z110 st110 hQ110 hS110 hg110 hC110
    subst l110 y110 z110
    obtain ⟨t111, k112, rfl, Nq110, p110_0, p110_1, p110_2, p110_3, p110_4⟩ := hQ110
    have N110_ := Fr.app N0 Nq110
    refine FinH.byS st110 ?_
    obtain ⟨X110w, hS110w, hZ110, hown110⟩ := rebS hS0 (by rw [e103]; exact (Nat.le_trans hk0 (Nat.le_trans E101.1 E103.1))) X110 hS110 hg110 hZ hown
    have ch113 : CHr Z consts_1 s.vm h0 T110.vm T110.heap := ch104.trans hC110
    have kp114 : Keep h0 h101 [] := (Keep.refl h0 []).ext E101
    have kp115 : Keep h0 h103 [] := kp114.ext E103
    have kp116 : Keep h0 T110.heap [] := kp115.trans p110_0 (allS (Or.inr (Nat.le_trans (Nat.le_refl _) (Nat.le_of_eq g101.symm))) all0)
    show FinH _ _ _ _ _ _ _ _ _ (T110.setTop (mkF m 14 #[.val (.int nn), .val (.int c0), .val (.int c1), .val (.int c2), .val (.int c3), .val (.int c4)] [(.ref a101)]))
    exact FinH.ret (v := some (.ref a101)) X110w hS110w ((Nat.le_refl _)) (fun h => by rw [Bd.returns] at h; cases h) Bd.notSynchronized (⟨a101, t111, k112, (0 : Int32), [], (0 : Int32), rfl, N110_, kp116, p110_1, p110_2, p110_3, p110_4, (by unfold own_mk; rw [if_pos hm0]; exact Or.inl ⟨rfl, rfl, rfl, own_nil⟩)⟩) (by rw [hh]; exact ch113.trans (CHv.at X110w hZ110 own_EW ch113.1)) (by decide) (by decide) (fun fs hr => retA X110w hx Bd.returns rfl rfl (hb hby d_method_3_14) hr)
  · refine FinH.by (fun tt_ kk_ => XS.ifYes X0.here hx rfl (pc0 := 1) (pc' := 15) rfl (hb hby d_method_3_1) rfl ((if0 _ _).trans (feq hm0).2) (by decide) (by decide) kk_) ?_
    refine FinH.by (fun tt_ kk_ => XS.iloadN X0.here hx rfl (hb hby d_method_3_15) rfl (XS.iconst X0.here hx rfl (hb hby d_method_3_16) kk_)) ?_
    show FinH _ _ _ _ _ _ _ _ _ (s₁.setTop (mkF m 17 #[.val (.int nn), .val (.int c0), .val (.int c1), .val (.int c2), .val (.int c3), .val (.int c4)] [(.int 1), (.int nn)]))
    by_cases hm1 : nn = (1 : Int32)
    · refine FinH.by (fun tt_ kk_ => XS.icmpNo X0.here hx rfl (hb hby d_method_3_17) rfl (teq hm1).2 kk_) ?_
      obtain ⟨T117, h117, X117, e117, E117, A117, D117, -, st117⟩ := newO X0 hx hZ hown (w_ hw 6 rfl) (w_ hw 7 rfl) (w_ hw 8 rfl) e0 (g := (mkF m 20 #[.val (.int nn), .val (.int c0), .val (.int c1), .val (.int c2), .val (.int c3), .val (.int c4)] [])) rfl (hb hby d_method_3_20) (by decide) (by decide)
      obtain ⟨a117, g117⟩ : ∃ z, z = h0.size := ⟨_, rfl⟩
      rw [← g117] at A117 D117 st117
      refine FinH.by (fun tt_ kk_ => st117 tt_ kk_) ?_
      have ch118 : CHr Z consts_1 s.vm h0 s.vm h117 := ch0.trans (CHr.ext E117 ch0.1)
      refine FinH.by (fun tt_ kk_ => XS.dup X117.here hx rfl (hb hby d_method_3_23) rfl rfl (XS.iconst X117.here hx rfl (hb hby d_method_3_24) kk_)) ?_
      obtain ⟨T119, h119, k119, X119, e119, E119, A119, st119⟩ := newP X117 hx hZ (w_ hw 9 rfl) e117 (g := (mkF m 25 #[.val (.int nn), .val (.int c0), .val (.int c1), .val (.int c2), .val (.int c3), .val (.int c4)] [(.int 1), (.ref a117), (.ref a117)])) rfl (hb hby d_method_3_25) rfl (by decide) (cap := 1) (by decide) (by decide) (by decide) (by decide)
      obtain ⟨a119, g119⟩ : ∃ z, z = h117.size := ⟨_, rfl⟩
      rw [← g119] at A119 st119
      refine FinH.by (fun tt_ kk_ => st119 tt_ kk_) ?_
      have ch120 : CHr Z consts_1 s.vm h0 s.vm h119 := ch118.trans (CHr.ext E119 ch118.1)
      have V119 : Arv Z h119 a119 k119 .char (1 : Int32) [(.int (0 : Int32))] (.int (0 : Int32)) := (Arv.new A119 (by decide)).pad (pad_rep [] (.int (0 : Int32)) 1)
      refine FinH.by (fun tt_ kk_ => XS.dup X119.here hx rfl (hb hby d_method_3_27) rfl rfl (XS.iconst X119.here hx rfl (hb hby d_method_3_28) (XS.iloadN X119.here hx rfl (hb hby d_method_3_29) rfl kk_))) ?_
      obtain ⟨cl121, Ar121, q121, S121, N121, H121, G121⟩ := id V119
      obtain ⟨T121, h121, X121, e121, W121, st121⟩ := stC X119 hx hZ e119 Ar121 (j := (0 : Int32)) (inb_of S121 ⟨by decide, by decide⟩) (g := (mkF m 30 #[.val (.int nn), .val (.int c0), .val (.int c1), .val (.int c2), .val (.int c3), .val (.int c4)] [(.int c0), (.int 0), (.ref a119), (.ref a119), (.ref a117), (.ref a117)])) rfl rfl (hb hby d_method_3_30)
      have V121 : Arv Z h121 a119 k119 .char (1 : Int32) [(.int (nar .char c0))] (.int (0 : Int32)) := Arv.set Ar121 q121 S121 N121 H121 G121 (fits_nar_char _) W121 0 rfl (Nat.le_of_ble_eq_true rfl)
      have z123 : n0 ≤ h117.size := Nat.le_trans Z0 E117.1
      have g122 : n0 ≤ a119 := Nat.le_trans z123 (Nat.le_of_eq g119.symm)
      refine FinH.by (fun tt_ kk_ => st121 tt_ kk_) ?_
      have N121_ := Fr.snoc X121 N0 g122
      have sf125 : Safe Z consts_1 s.vm h119 a119 := (Safe.ext E119 ch118.1 (Safe.new (Nat.le_of_eq g119.symm)))
      have ch124 : CHr Z consts_1 s.vm h0 s.vm h121 := ch120.trans (CHr.wr W121 sf125 ch120.1)
      have E126 : Exa Z h121 a117 "java/lang/String" := ((A117.ext E119).wr W121)
      have ne127 : a117 ≠ a119 := Nat.ne_of_lt (Nat.lt_of_lt_of_le A117.lt (Nat.le_of_eq g119.symm))
      have F128 : Fld Z h121 a117 "java/lang/String" "value" "[B" .null := (((D117 (Or.inr (w_ hw 22 rfl)) (ty := (.array .byte)) (by decide) : Fld Z h117 a117 "java/lang/String" "value" "[B" .null).ext E119).other W121 (Or.inl ne127))
      have F129 : Fld Z h121 a117 "java/lang/String" "coder" "B" (.int (0 : Int32)) := (((D117 (Or.inr (w_ hw 23 rfl)) (ty := .byte) (by decide) : Fld Z h117 a117 "java/lang/String" "coder" "B" (.int (0 : Int32))).ext E119).other W121 (Or.inl ne127))
      have g130 : n0 ≤ a117 := Nat.le_trans Z0 (Nat.le_of_eq g117.symm)
      have O131 : Old Z n0 h121 := (((OL.ext E117).ext E119).wr W121 g122)
      have z132 : n0 ≤ h121.size := Nat.le_trans Z0 (Nat.le_trans (Nat.le_trans E117.1 E119.1) (Keep.of_wr W121).1)
      obtain ⟨v133, _, ⟨T133, L133, k133, n133⟩, -, X133, ⟨Lc133, hQ133, l133, y133, z133⟩, st133⟩ := X121.specialBack hx (y := y_24) rfl hown (mvT hZ (w_ hw 10 rfl)) (mvT hZ (w_ hw 11 rfl)) (mvT hZ (w_ hw 12 rfl)) (by decide) (backOf (W := 1) (rm_n1g l Z a0 hw [] a117 a119 k119 ([(nar .char c0)] : List Int32) G1 h121 n0 z132 E126 F128 F129 g130 V121 (Nat.le_of_ble_eq_true rfl) (own_cons (own_nb _) own_nil) (Nat.le_of_ble_eq_true rfl) S1 P1 S6 S7 S8 O131) hZ (w_ hw 12 rfl) (w_ hw 8 rfl) (by decide) (by decide)) (g := (mkF m 31 #[.val (.int nn), .val (.int c0), .val (.int c1), .val (.int c2), .val (.int c3), .val (.int c4)] [(.ref a119), (.ref a117), (.ref a117)])) rfl (by rw [hml]; rfl) (Steps.refl _) (a := a117) (argsL := [(.ref a119)]) (rest := [(.ref a117)]) (lenOf pd_389 rfl) rfl (by show 2 * 0 + _ ≤ _; exact Nat.le_of_eq rfl) (hb hby d_method_3_31) (fun _ _ => ⟨rfl, e121, (by decide : 2 + 2 ≤ _), (by decide : 5 + 15 ≤ _)⟩)
      dsimp only [Pt.U, Pt.locs, Pt.cells, Pt.slots] at X133 l133 y133 z133 st133 hQ133
      subst l133 y133 z133
      obtain ⟨t134, k135, cd136, N137, vs138, rfl, Nq133, p133_0, p133_1, p133_2, p133_3, p133_4, p133_5, p133_6⟩ := hQ133
      have N133_ := Fr.app N121_ Nq133
      refine FinH.byS st133 ?_
      have sf140 : Safe Z consts_1 s.vm h117 a117 := (Safe.ext E117 ch0.1 (Safe.new (Nat.le_of_eq g117.symm)))
      have sf141 : Safe Z consts_1 s.vm h119 a117 := (Safe.ext E119 ch118.1 sf140)
      have sf142 : Safe Z consts_1 s.vm h121 a117 := (Safe.wr W121 sf125 ch120.1 sf141)
      have ch139 : CHr Z consts_1 s.vm h0 s.vm T133.heap := ch124.trans (CHr.keep p133_0 (allS sf142 all0) ch124.1)
      have kp143 : Keep h0 h117 [] := (Keep.refl h0 []).ext E117
      have kp144 : Keep h0 h119 [] := kp143.ext E119
      have kp145 : Keep h0 h121 [] := kp144.wr W121 (Or.inr (Nat.le_trans E117.1 (Nat.le_of_eq g119.symm)))
      have kp146 : Keep h0 T133.heap [] := kp145.trans p133_0 (allS (Or.inr (Nat.le_trans (Nat.le_refl _) (Nat.le_of_eq g117.symm))) all0)
      show FinH _ _ _ _ _ _ _ _ _ (T133.setTop (mkF m 34 #[.val (.int nn), .val (.int c0), .val (.int c1), .val (.int c2), .val (.int c3), .val (.int c4)] [(.ref a117)]))
      exact FinH.ret (v := some (.ref a117)) X133 hS0 ((Nat.le_trans hk0 (Nat.le_trans (Nat.le_trans (Nat.le_trans E117.1 E119.1) (Keep.of_wr W121).1) p133_0.1))) (fun h => by rw [Bd.returns] at h; cases h) Bd.notSynchronized (⟨a117, t134, k135, N137, vs138, cd136, rfl, N133_, kp146, p133_2, p133_3, p133_4, p133_5, (by unfold own_mk; rw [if_neg hm0, if_pos hm1]; exact p133_6)⟩) (by rw [hh]; exact ch139.trans (CHv.at X133 hZ own_EW ch139.1)) (by decide) (by decide) (fun fs hr => retA X133 hx Bd.returns rfl rfl (hb hby d_method_3_34) hr)
    · refine FinH.by (fun tt_ kk_ => XS.icmpYes X0.here hx rfl (pc0 := 17) (pc' := 35) rfl (hb hby d_method_3_17) rfl (feq hm1).2 (by decide) (by decide) kk_) ?_
      refine FinH.by (fun tt_ kk_ => XS.iloadN X0.here hx rfl (hb hby d_method_3_35) rfl (XS.iconst X0.here hx rfl (hb hby d_method_3_36) kk_)) ?_
      show FinH _ _ _ _ _ _ _ _ _ (s₁.setTop (mkF m 37 #[.val (.int nn), .val (.int c0), .val (.int c1), .val (.int c2), .val (.int c3), .val (.int c4)] [(.int 2), (.int nn)]))
      by_cases hm2 : nn = (2 : Int32)
      · refine FinH.by (fun tt_ kk_ => XS.icmpNo X0.here hx rfl (hb hby d_method_3_37) rfl (teq hm2).2 kk_) ?_
        obtain ⟨T147, h147, X147, e147, E147, A147, D147, -, st147⟩ := newO X0 hx hZ hown (w_ hw 6 rfl) (w_ hw 7 rfl) (w_ hw 8 rfl) e0 (g := (mkF m 40 #[.val (.int nn), .val (.int c0), .val (.int c1), .val (.int c2), .val (.int c3), .val (.int c4)] [])) rfl (hb hby d_method_3_40) (by decide) (by decide)
        obtain ⟨a147, g147⟩ : ∃ z, z = h0.size := ⟨_, rfl⟩
        rw [← g147] at A147 D147 st147
        refine FinH.by (fun tt_ kk_ => st147 tt_ kk_) ?_
        have ch148 : CHr Z consts_1 s.vm h0 s.vm h147 := ch0.trans (CHr.ext E147 ch0.1)
        refine FinH.by (fun tt_ kk_ => XS.dup X147.here hx rfl (hb hby d_method_3_43) rfl rfl (XS.iconst X147.here hx rfl (hb hby d_method_3_44) kk_)) ?_
        obtain ⟨T149, h149, k149, X149, e149, E149, A149, st149⟩ := newP X147 hx hZ (w_ hw 9 rfl) e147 (g := (mkF m 45 #[.val (.int nn), .val (.int c0), .val (.int c1), .val (.int c2), .val (.int c3), .val (.int c4)] [(.int 2), (.ref a147), (.ref a147)])) rfl (hb hby d_method_3_45) rfl (by decide) (cap := 2) (by decide) (by decide) (by decide) (by decide)
        obtain ⟨a149, g149⟩ : ∃ z, z = h147.size := ⟨_, rfl⟩
        rw [← g149] at A149 st149
        refine FinH.by (fun tt_ kk_ => st149 tt_ kk_) ?_
        have ch150 : CHr Z consts_1 s.vm h0 s.vm h149 := ch148.trans (CHr.ext E149 ch148.1)
        have V149 : Arv Z h149 a149 k149 .char (2 : Int32) [(.int (0 : Int32)), (.int (0 : Int32))] (.int (0 : Int32)) := (Arv.new A149 (by decide)).pad (pad_rep [] (.int (0 : Int32)) 2)
        refine FinH.by (fun tt_ kk_ => XS.dup X149.here hx rfl (hb hby d_method_3_47) rfl rfl (XS.iconst X149.here hx rfl (hb hby d_method_3_48) (XS.iloadN X149.here hx rfl (hb hby d_method_3_49) rfl kk_))) ?_
        obtain ⟨cl151, Ar151, q151, S151, N151, H151, G151⟩ := id V149
        obtain ⟨T151, h151, X151, e151, W151, st151⟩ := stC X149 hx hZ e149 Ar151 (j := (0 : Int32)) (inb_of S151 ⟨by decide, by decide⟩) (g := (mkF m 50 #[.val (.int nn), .val (.int c0), .val (.int c1), .val (.int c2), .val (.int c3), .val (.int c4)] [(.int c0), (.int 0), (.ref a149), (.ref a149), (.ref a147), (.ref a147)])) rfl rfl (hb hby d_method_3_50)
        have V151 : Arv Z h151 a149 k149 .char (2 : Int32) [(.int (nar .char c0)), (.int (0 : Int32))] (.int (0 : Int32)) := Arv.set Ar151 q151 S151 N151 H151 G151 (fits_nar_char _) W151 0 rfl (Nat.le_of_ble_eq_true rfl)
        have z153 : n0 ≤ h147.size := Nat.le_trans Z0 E147.1
        have g152 : n0 ≤ a149 := Nat.le_trans z153 (Nat.le_of_eq g149.symm)
        refine FinH.by (fun tt_ kk_ => st151 tt_ kk_) ?_
        have N151_ := Fr.snoc X151 N0 g152
        have sf155 : Safe Z consts_1 s.vm h149 a149 := (Safe.ext E149 ch148.1 (Safe.new (Nat.le_of_eq g149.symm)))
        have ch154 : CHr Z consts_1 s.vm h0 s.vm h151 := ch150.trans (CHr.wr W151 sf155 ch150.1)
        refine FinH.by (fun tt_ kk_ => XS.dup X151.here hx rfl (hb hby d_method_3_51) rfl rfl (XS.iconst X151.here hx rfl (hb hby d_method_3_52) (XS.iloadN X151.here hx rfl (hb hby d_method_3_53) rfl kk_))) ?_
        obtain ⟨cl156, Ar156, q156, S156, N156, H156, G156⟩ := id V151
        obtain ⟨T156, h156, X156, e156, W156, st156⟩ := stC X151 hx hZ e151 Ar156 (j := (1 : Int32)) (inb_of S156 ⟨by decide, by decide⟩) (g := (mkF m 54 #[.val (.int nn), .val (.int c0), .val (.int c1), .val (.int c2), .val (.int c3), .val (.int c4)] [(.int c1), (.int 1), (.ref a149), (.ref a149), (.ref a147), (.ref a147)])) rfl rfl (hb hby d_method_3_54)
        have V156 : Arv Z h156 a149 k149 .char (2 : Int32) [(.int (nar .char c0)), (.int (nar .char c1))] (.int (0 : Int32)) := Arv.set Ar156 q156 S156 N156 H156 G156 (fits_nar_char _) W156 1 rfl (Nat.le_of_ble_eq_true rfl)
        refine FinH.by (fun tt_ kk_ => st156 tt_ kk_) ?_
        have N156_ := Fr.snoc X156 N151_ g152
        have sf158 : Safe Z consts_1 s.vm h151 a149 := (Safe.wr W151 sf155 ch150.1 sf155)
        have ch157 : CHr Z consts_1 s.vm h0 s.vm h156 := ch154.trans (CHr.wr W156 sf158 ch154.1)
        have E159 : Exa Z h156 a147 "java/lang/String" := (((A147.ext E149).wr W151).wr W156)
        have ne160 : a147 ≠ a149 := Nat.ne_of_lt (Nat.lt_of_lt_of_le A147.lt (Nat.le_of_eq g149.symm))
        have F161 : Fld Z h156 a147 "java/lang/String" "value" "[B" .null := ((((D147 (Or.inr (w_ hw 22 rfl)) (ty := (.array .byte)) (by decide) : Fld Z h147 a147 "java/lang/String" "value" "[B" .null).ext E149).other W151 (Or.inl ne160)).other W156 (Or.inl ne160))
        have F162 : Fld Z h156 a147 "java/lang/String" "coder" "B" (.int (0 : Int32)) := ((((D147 (Or.inr (w_ hw 23 rfl)) (ty := .byte) (by decide) : Fld Z h147 a147 "java/lang/String" "coder" "B" (.int (0 : Int32))).ext E149).other W151 (Or.inl ne160)).other W156 (Or.inl ne160))
        have g163 : n0 ≤ a147 := Nat.le_trans Z0 (Nat.le_of_eq g147.symm)
        have O164 : Old Z n0 h156 := ((((OL.ext E147).ext E149).wr W151 g152).wr W156 g152)
        have z165 : n0 ≤ h156.size := Nat.le_trans Z0 (Nat.le_trans (Nat.le_trans (Nat.le_trans E147.1 E149.1) (Keep.of_wr W151).1) (Keep.of_wr W156).1)
        obtain ⟨v166, _, ⟨T166, L166, k166, n166⟩, -, X166, ⟨Lc166, hQ166, l166, y166, z166⟩, st166⟩ := X156.specialBack hx (y := y_24) rfl hown (mvT hZ (w_ hw 10 rfl)) (mvT hZ (w_ hw 11 rfl)) (mvT hZ (w_ hw 12 rfl)) (by decide) (backOf (W := 1) (rm_n1g l Z a0 hw [] a147 a149 k149 ([(nar .char c0), (nar .char c1)] : List Int32) G1 h156 n0 z165 E159 F161 F162 g163 V156 (Nat.le_of_ble_eq_true rfl) (own_cons (own_nb _) (own_cons (own_nb _) own_nil)) (Nat.le_of_ble_eq_true rfl) S1 P1 S6 S7 S8 O164) hZ (w_ hw 12 rfl) (w_ hw 8 rfl) (by decide) (by decide)) (g := (mkF m 55 #[.val (.int nn), .val (.int c0), .val (.int c1), .val (.int c2), .val (.int c3), .val (.int c4)] [(.ref a149), (.ref a147), (.ref a147)])) rfl (by rw [hml]; rfl) (Steps.refl _) (a := a147) (argsL := [(.ref a149)]) (rest := [(.ref a147)]) (lenOf pd_389 rfl) rfl (by show 2 * 0 + _ ≤ _; exact Nat.le_of_eq rfl) (hb hby d_method_3_55) (fun _ _ => ⟨rfl, e156, (by decide : 2 + 2 ≤ _), (by decide : 6 + 15 ≤ _)⟩)
        dsimp only [Pt.U, Pt.locs, Pt.cells, Pt.slots] at X166 l166 y166 z166 st166 hQ166
        subst l166 y166 z166
        obtain ⟨t167, k168, cd169, N170, vs171, rfl, Nq166, p166_0, p166_1, p166_2, p166_3, p166_4, p166_5, p166_6⟩ := hQ166
        have N166_ := Fr.app N156_ Nq166
        refine FinH.byS st166 ?_
        have sf173 : Safe Z consts_1 s.vm h147 a147 := (Safe.ext E147 ch0.1 (Safe.new (Nat.le_of_eq g147.symm)))
        have sf174 : Safe Z consts_1 s.vm h149 a147 := (Safe.ext E149 ch148.1 sf173)
        have sf175 : Safe Z consts_1 s.vm h151 a147 := (Safe.wr W151 sf155 ch150.1 sf174)
        have sf176 : Safe Z consts_1 s.vm h156 a147 := (Safe.wr W156 sf158 ch154.1 sf175)
        have ch172 : CHr Z consts_1 s.vm h0 s.vm T166.heap := ch157.trans (CHr.keep p166_0 (allS sf176 all0) ch157.1)
        have kp177 : Keep h0 h147 [] := (Keep.refl h0 []).ext E147
        have kp178 : Keep h0 h149 [] := kp177.ext E149
        have kp179 : Keep h0 h151 [] := kp178.wr W151 (Or.inr (Nat.le_trans E147.1 (Nat.le_of_eq g149.symm)))
        have kp180 : Keep h0 h156 [] := kp179.wr W156 (Or.inr (Nat.le_trans E147.1 (Nat.le_of_eq g149.symm)))
        have kp181 : Keep h0 T166.heap [] := kp180.trans p166_0 (allS (Or.inr (Nat.le_trans (Nat.le_refl _) (Nat.le_of_eq g147.symm))) all0)
        show FinH _ _ _ _ _ _ _ _ _ (T166.setTop (mkF m 58 #[.val (.int nn), .val (.int c0), .val (.int c1), .val (.int c2), .val (.int c3), .val (.int c4)] [(.ref a147)]))
        exact FinH.ret (v := some (.ref a147)) X166 hS0 ((Nat.le_trans hk0 (Nat.le_trans (Nat.le_trans (Nat.le_trans (Nat.le_trans E147.1 E149.1) (Keep.of_wr W151).1) (Keep.of_wr W156).1) p166_0.1))) (fun h => by rw [Bd.returns] at h; cases h) Bd.notSynchronized (⟨a147, t167, k168, N170, vs171, cd169, rfl, N166_, kp181, p166_2, p166_3, p166_4, p166_5, (by unfold own_mk; rw [if_neg hm0, if_neg hm1, if_pos hm2]; exact p166_6)⟩) (by rw [hh]; exact ch172.trans (CHv.at X166 hZ own_EW ch172.1)) (by decide) (by decide) (fun fs hr => retA X166 hx Bd.returns rfl rfl (hb hby d_method_3_58) hr)
      · refine FinH.by (fun tt_ kk_ => XS.icmpYes X0.here hx rfl (pc0 := 37) (pc' := 59) rfl (hb hby d_method_3_37) rfl (feq hm2).2 (by decide) (by decide) kk_) ?_
        refine FinH.by (fun tt_ kk_ => XS.iloadN X0.here hx rfl (hb hby d_method_3_59) rfl (XS.iconst X0.here hx rfl (hb hby d_method_3_60) kk_)) ?_
        show FinH _ _ _ _ _ _ _ _ _ (s₁.setTop (mkF m 61 #[.val (.int nn), .val (.int c0), .val (.int c1), .val (.int c2), .val (.int c3), .val (.int c4)] [(.int 3), (.int nn)]))
        by_cases hm3 : nn = (3 : Int32)
        · refine FinH.by (fun tt_ kk_ => XS.icmpNo X0.here hx rfl (hb hby d_method_3_61) rfl (teq hm3).2 kk_) ?_
          obtain ⟨T182, h182, X182, e182, E182, A182, D182, -, st182⟩ := newO X0 hx hZ hown (w_ hw 6 rfl) (w_ hw 7 rfl) (w_ hw 8 rfl) e0 (g := (mkF m 64 #[.val (.int nn), .val (.int c0), .val (.int c1), .val (.int c2), .val (.int c3), .val (.int c4)] [])) rfl (hb hby d_method_3_64) (by decide) (by decide)
          obtain ⟨a182, g182⟩ : ∃ z, z = h0.size := ⟨_, rfl⟩
          rw [← g182] at A182 D182 st182
          refine FinH.by (fun tt_ kk_ => st182 tt_ kk_) ?_
          have ch183 : CHr Z consts_1 s.vm h0 s.vm h182 := ch0.trans (CHr.ext E182 ch0.1)
          refine FinH.by (fun tt_ kk_ => XS.dup X182.here hx rfl (hb hby d_method_3_67) rfl rfl (XS.iconst X182.here hx rfl (hb hby d_method_3_68) kk_)) ?_
          obtain ⟨T184, h184, k184, X184, e184, E184, A184, st184⟩ := newP X182 hx hZ (w_ hw 9 rfl) e182 (g := (mkF m 69 #[.val (.int nn), .val (.int c0), .val (.int c1), .val (.int c2), .val (.int c3), .val (.int c4)] [(.int 3), (.ref a182), (.ref a182)])) rfl (hb hby d_method_3_69) rfl (by decide) (cap := 3) (by decide) (by decide) (by decide) (by decide)
          obtain ⟨a184, g184⟩ : ∃ z, z = h182.size := ⟨_, rfl⟩
          rw [← g184] at A184 st184
          refine FinH.by (fun tt_ kk_ => st184 tt_ kk_) ?_
          have ch185 : CHr Z consts_1 s.vm h0 s.vm h184 := ch183.trans (CHr.ext E184 ch183.1)
          have V184 : Arv Z h184 a184 k184 .char (3 : Int32) [(.int (0 : Int32)), (.int (0 : Int32)), (.int (0 : Int32))] (.int (0 : Int32)) := (Arv.new A184 (by decide)).pad (pad_rep [] (.int (0 : Int32)) 3)
          refine FinH.by (fun tt_ kk_ => XS.dup X184.here hx rfl (hb hby d_method_3_71) rfl rfl (XS.iconst X184.here hx rfl (hb hby d_method_3_72) (XS.iloadN X184.here hx rfl (hb hby d_method_3_73) rfl kk_))) ?_
          obtain ⟨cl186, Ar186, q186, S186, N186, H186, G186⟩ := id V184
          obtain ⟨T186, h186, X186, e186, W186, st186⟩ := stC X184 hx hZ e184 Ar186 (j := (0 : Int32)) (inb_of S186 ⟨by decide, by decide⟩) (g := (mkF m 74 #[.val (.int nn), .val (.int c0), .val (.int c1), .val (.int c2), .val (.int c3), .val (.int c4)] [(.int c0), (.int 0), (.ref a184), (.ref a184), (.ref a182), (.ref a182)])) rfl rfl (hb hby d_method_3_74)
          have V186 : Arv Z h186 a184 k184 .char (3 : Int32) [(.int (nar .char c0)), (.int (0 : Int32)), (.int (0 : Int32))] (.int (0 : Int32)) := Arv.set Ar186 q186 S186 N186 H186 G186 (fits_nar_char _) W186 0 rfl (Nat.le_of_ble_eq_true rfl)
          have z188 : n0 ≤ h182.size := Nat.le_trans Z0 E182.1
          have g187 : n0 ≤ a184 := Nat.le_trans z188 (Nat.le_of_eq g184.symm)
          refine FinH.by (fun tt_ kk_ => st186 tt_ kk_) ?_
          have N186_ := Fr.snoc X186 N0 g187
          have sf190 : Safe Z consts_1 s.vm h184 a184 := (Safe.ext E184 ch183.1 (Safe.new (Nat.le_of_eq g184.symm)))
          have ch189 : CHr Z consts_1 s.vm h0 s.vm h186 := ch185.trans (CHr.wr W186 sf190 ch185.1)
          refine FinH.by (fun tt_ kk_ => XS.dup X186.here hx rfl (hb hby d_method_3_75) rfl rfl (XS.iconst X186.here hx rfl (hb hby d_method_3_76) (XS.iloadN X186.here hx rfl (hb hby d_method_3_77) rfl kk_))) ?_
          obtain ⟨cl191, Ar191, q191, S191, N191, H191, G191⟩ := id V186
          obtain ⟨T191, h191, X191, e191, W191, st191⟩ := stC X186 hx hZ e186 Ar191 (j := (1 : Int32)) (inb_of S191 ⟨by decide, by decide⟩) (g := (mkF m 78 #[.val (.int nn), .val (.int c0), .val (.int c1), .val (.int c2), .val (.int c3), .val (.int c4)] [(.int c1), (.int 1), (.ref a184), (.ref a184), (.ref a182), (.ref a182)])) rfl rfl (hb hby d_method_3_78)
          have V191 : Arv Z h191 a184 k184 .char (3 : Int32) [(.int (nar .char c0)), (.int (nar .char c1)), (.int (0 : Int32))] (.int (0 : Int32)) := Arv.set Ar191 q191 S191 N191 H191 G191 (fits_nar_char _) W191 1 rfl (Nat.le_of_ble_eq_true rfl)
          refine FinH.by (fun tt_ kk_ => st191 tt_ kk_) ?_
          have N191_ := Fr.snoc X191 N186_ g187
          have sf193 : Safe Z consts_1 s.vm h186 a184 := (Safe.wr W186 sf190 ch185.1 sf190)
          have ch192 : CHr Z consts_1 s.vm h0 s.vm h191 := ch189.trans (CHr.wr W191 sf193 ch189.1)
          refine FinH.by (fun tt_ kk_ => XS.dup X191.here hx rfl (hb hby d_method_3_79) rfl rfl (XS.iconst X191.here hx rfl (hb hby d_method_3_80) (XS.iloadN X191.here hx rfl (hb hby d_method_3_81) rfl kk_))) ?_
          obtain ⟨cl194, Ar194, q194, S194, N194, H194, G194⟩ := id V191
          obtain ⟨T194, h194, X194, e194, W194, st194⟩ := stC X191 hx hZ e191 Ar194 (j := (2 : Int32)) (inb_of S194 ⟨by decide, by decide⟩) (g := (mkF m 82 #[.val (.int nn), .val (.int c0), .val (.int c1), .val (.int c2), .val (.int c3), .val (.int c4)] [(.int c2), (.int 2), (.ref a184), (.ref a184), (.ref a182), (.ref a182)])) rfl rfl (hb hby d_method_3_82)
          have V194 : Arv Z h194 a184 k184 .char (3 : Int32) [(.int (nar .char c0)), (.int (nar .char c1)), (.int (nar .char c2))] (.int (0 : Int32)) := Arv.set Ar194 q194 S194 N194 H194 G194 (fits_nar_char _) W194 2 rfl (Nat.le_of_ble_eq_true rfl)
          refine FinH.by (fun tt_ kk_ => st194 tt_ kk_) ?_
          have N194_ := Fr.snoc X194 N191_ g187
          have sf196 : Safe Z consts_1 s.vm h191 a184 := (Safe.wr W191 sf193 ch189.1 sf193)
          have ch195 : CHr Z consts_1 s.vm h0 s.vm h194 := ch192.trans (CHr.wr W194 sf196 ch192.1)
          have E197 : Exa Z h194 a182 "java/lang/String" := ((((A182.ext E184).wr W186).wr W191).wr W194)
          have ne198 : a182 ≠ a184 := Nat.ne_of_lt (Nat.lt_of_lt_of_le A182.lt (Nat.le_of_eq g184.symm))
          have F199 : Fld Z h194 a182 "java/lang/String" "value" "[B" .null := (((((D182 (Or.inr (w_ hw 22 rfl)) (ty := (.array .byte)) (by decide) : Fld Z h182 a182 "java/lang/String" "value" "[B" .null).ext E184).other W186 (Or.inl ne198)).other W191 (Or.inl ne198)).other W194 (Or.inl ne198))
          have F200 : Fld Z h194 a182 "java/lang/String" "coder" "B" (.int (0 : Int32)) := (((((D182 (Or.inr (w_ hw 23 rfl)) (ty := .byte) (by decide) : Fld Z h182 a182 "java/lang/String" "coder" "B" (.int (0 : Int32))).ext E184).other W186 (Or.inl ne198)).other W191 (Or.inl ne198)).other W194 (Or.inl ne198))
          have g201 : n0 ≤ a182 := Nat.le_trans Z0 (Nat.le_of_eq g182.symm)
          have O202 : Old Z n0 h194 := (((((OL.ext E182).ext E184).wr W186 g187).wr W191 g187).wr W194 g187)
          have z203 : n0 ≤ h194.size := Nat.le_trans Z0 (Nat.le_trans (Nat.le_trans (Nat.le_trans (Nat.le_trans E182.1 E184.1) (Keep.of_wr W186).1) (Keep.of_wr W191).1) (Keep.of_wr W194).1)
          obtain ⟨v204, _, ⟨T204, L204, k204, n204⟩, -, X204, ⟨Lc204, hQ204, l204, y204, z204⟩, st204⟩ := X194.specialBack hx (y := y_24) rfl hown (mvT hZ (w_ hw 10 rfl)) (mvT hZ (w_ hw 11 rfl)) (mvT hZ (w_ hw 12 rfl)) (by decide) (backOf (W := 1) (rm_n1g l Z a0 hw [] a182 a184 k184 ([(nar .char c0), (nar .char c1), (nar .char c2)] : List Int32) G1 h194 n0 z203 E197 F199 F200 g201 V194 (Nat.le_of_ble_eq_true rfl) (own_cons (own_nb _) (own_cons (own_nb _) (own_cons (own_nb _) own_nil))) (Nat.le_of_ble_eq_true rfl) S1 P1 S6 S7 S8 O202) hZ (w_ hw 12 rfl) (w_ hw 8 rfl) (by decide) (by decide)) (g := (mkF m 83 #[.val (.int nn), .val (.int c0), .val (.int c1), .val (.int c2), .val (.int c3), .val (.int c4)] [(.ref a184), (.ref a182), (.ref a182)])) rfl (by rw [hml]; rfl) (Steps.refl _) (a := a182) (argsL := [(.ref a184)]) (rest := [(.ref a182)]) (lenOf pd_389 rfl) rfl (by show 2 * 0 + _ ≤ _; exact Nat.le_of_eq rfl) (hb hby d_method_3_83) (fun _ _ => ⟨rfl, e194, (by decide : 2 + 2 ≤ _), (by decide : 7 + 15 ≤ _)⟩)
          dsimp only [Pt.U, Pt.locs, Pt.cells, Pt.slots] at X204 l204 y204 z204 st204 hQ204
          subst l204 y204 z204
          obtain ⟨t205, k206, cd207, N208, vs209, rfl, Nq204, p204_0, p204_1, p204_2, p204_3, p204_4, p204_5, p204_6⟩ := hQ204
          have N204_ := Fr.app N194_ Nq204
          refine FinH.byS st204 ?_
          have sf211 : Safe Z consts_1 s.vm h182 a182 := (Safe.ext E182 ch0.1 (Safe.new (Nat.le_of_eq g182.symm)))
          have sf212 : Safe Z consts_1 s.vm h184 a182 := (Safe.ext E184 ch183.1 sf211)
          have sf213 : Safe Z consts_1 s.vm h186 a182 := (Safe.wr W186 sf190 ch185.1 sf212)
          have sf214 : Safe Z consts_1 s.vm h191 a182 := (Safe.wr W191 sf193 ch189.1 sf213)
          have sf215 : Safe Z consts_1 s.vm h194 a182 := (Safe.wr W194 sf196 ch192.1 sf214)
          have ch210 : CHr Z consts_1 s.vm h0 s.vm T204.heap := ch195.trans (CHr.keep p204_0 (allS sf215 all0) ch195.1)
          have kp216 : Keep h0 h182 [] := (Keep.refl h0 []).ext E182
          have kp217 : Keep h0 h184 [] := kp216.ext E184
          have kp218 : Keep h0 h186 [] := kp217.wr W186 (Or.inr (Nat.le_trans E182.1 (Nat.le_of_eq g184.symm)))
          have kp219 : Keep h0 h191 [] := kp218.wr W191 (Or.inr (Nat.le_trans E182.1 (Nat.le_of_eq g184.symm)))
          have kp220 : Keep h0 h194 [] := kp219.wr W194 (Or.inr (Nat.le_trans E182.1 (Nat.le_of_eq g184.symm)))
          have kp221 : Keep h0 T204.heap [] := kp220.trans p204_0 (allS (Or.inr (Nat.le_trans (Nat.le_refl _) (Nat.le_of_eq g182.symm))) all0)
          show FinH _ _ _ _ _ _ _ _ _ (T204.setTop (mkF m 86 #[.val (.int nn), .val (.int c0), .val (.int c1), .val (.int c2), .val (.int c3), .val (.int c4)] [(.ref a182)]))
          exact FinH.ret (v := some (.ref a182)) X204 hS0 ((Nat.le_trans hk0 (Nat.le_trans (Nat.le_trans (Nat.le_trans (Nat.le_trans (Nat.le_trans E182.1 E184.1) (Keep.of_wr W186).1) (Keep.of_wr W191).1) (Keep.of_wr W194).1) p204_0.1))) (fun h => by rw [Bd.returns] at h; cases h) Bd.notSynchronized (⟨a182, t205, k206, N208, vs209, cd207, rfl, N204_, kp221, p204_2, p204_3, p204_4, p204_5, (by unfold own_mk; rw [if_neg hm0, if_neg hm1, if_neg hm2, if_pos hm3]; exact p204_6)⟩) (by rw [hh]; exact ch210.trans (CHv.at X204 hZ own_EW ch210.1)) (by decide) (by decide) (fun fs hr => retA X204 hx Bd.returns rfl rfl (hb hby d_method_3_86) hr)
        · refine FinH.by (fun tt_ kk_ => XS.icmpYes X0.here hx rfl (pc0 := 61) (pc' := 87) rfl (hb hby d_method_3_61) rfl (feq hm3).2 (by decide) (by decide) kk_) ?_
          refine FinH.by (fun tt_ kk_ => XS.iloadN X0.here hx rfl (hb hby d_method_3_87) rfl (XS.iconst X0.here hx rfl (hb hby d_method_3_88) kk_)) ?_
          show FinH _ _ _ _ _ _ _ _ _ (s₁.setTop (mkF m 89 #[.val (.int nn), .val (.int c0), .val (.int c1), .val (.int c2), .val (.int c3), .val (.int c4)] [(.int 4), (.int nn)]))
          by_cases hm4 : nn = (4 : Int32)
          · refine FinH.by (fun tt_ kk_ => XS.icmpNo X0.here hx rfl (hb hby d_method_3_89) rfl (teq hm4).2 kk_) ?_
            obtain ⟨T222, h222, X222, e222, E222, A222, D222, -, st222⟩ := newO X0 hx hZ hown (w_ hw 6 rfl) (w_ hw 7 rfl) (w_ hw 8 rfl) e0 (g := (mkF m 92 #[.val (.int nn), .val (.int c0), .val (.int c1), .val (.int c2), .val (.int c3), .val (.int c4)] [])) rfl (hb hby d_method_3_92) (by decide) (by decide)
            obtain ⟨a222, g222⟩ : ∃ z, z = h0.size := ⟨_, rfl⟩
            rw [← g222] at A222 D222 st222
            refine FinH.by (fun tt_ kk_ => st222 tt_ kk_) ?_
            have ch223 : CHr Z consts_1 s.vm h0 s.vm h222 := ch0.trans (CHr.ext E222 ch0.1)
            refine FinH.by (fun tt_ kk_ => XS.dup X222.here hx rfl (hb hby d_method_3_95) rfl rfl (XS.iconst X222.here hx rfl (hb hby d_method_3_96) kk_)) ?_
            obtain ⟨T224, h224, k224, X224, e224, E224, A224, st224⟩ := newP X222 hx hZ (w_ hw 9 rfl) e222 (g := (mkF m 97 #[.val (.int nn), .val (.int c0), .val (.int c1), .val (.int c2), .val (.int c3), .val (.int c4)] [(.int 4), (.ref a222), (.ref a222)])) rfl (hb hby d_method_3_97) rfl (by decide) (cap := 4) (by decide) (by decide) (by decide) (by decide)
            obtain ⟨a224, g224⟩ : ∃ z, z = h222.size := ⟨_, rfl⟩
            rw [← g224] at A224 st224
            refine FinH.by (fun tt_ kk_ => st224 tt_ kk_) ?_
            have ch225 : CHr Z consts_1 s.vm h0 s.vm h224 := ch223.trans (CHr.ext E224 ch223.1)
            have V224 : Arv Z h224 a224 k224 .char (4 : Int32) [(.int (0 : Int32)), (.int (0 : Int32)), (.int (0 : Int32)), (.int (0 : Int32))] (.int (0 : Int32)) := (Arv.new A224 (by decide)).pad (pad_rep [] (.int (0 : Int32)) 4)
            refine FinH.by (fun tt_ kk_ => XS.dup X224.here hx rfl (hb hby d_method_3_99) rfl rfl (XS.iconst X224.here hx rfl (hb hby d_method_3_100) (XS.iloadN X224.here hx rfl (hb hby d_method_3_101) rfl kk_))) ?_
            obtain ⟨cl226, Ar226, q226, S226, N226, H226, G226⟩ := id V224
            obtain ⟨T226, h226, X226, e226, W226, st226⟩ := stC X224 hx hZ e224 Ar226 (j := (0 : Int32)) (inb_of S226 ⟨by decide, by decide⟩) (g := (mkF m 102 #[.val (.int nn), .val (.int c0), .val (.int c1), .val (.int c2), .val (.int c3), .val (.int c4)] [(.int c0), (.int 0), (.ref a224), (.ref a224), (.ref a222), (.ref a222)])) rfl rfl (hb hby d_method_3_102)
            have V226 : Arv Z h226 a224 k224 .char (4 : Int32) [(.int (nar .char c0)), (.int (0 : Int32)), (.int (0 : Int32)), (.int (0 : Int32))] (.int (0 : Int32)) := Arv.set Ar226 q226 S226 N226 H226 G226 (fits_nar_char _) W226 0 rfl (Nat.le_of_ble_eq_true rfl)
            have z228 : n0 ≤ h222.size := Nat.le_trans Z0 E222.1
            have g227 : n0 ≤ a224 := Nat.le_trans z228 (Nat.le_of_eq g224.symm)
            refine FinH.by (fun tt_ kk_ => st226 tt_ kk_) ?_
            have N226_ := Fr.snoc X226 N0 g227
            have sf230 : Safe Z consts_1 s.vm h224 a224 := (Safe.ext E224 ch223.1 (Safe.new (Nat.le_of_eq g224.symm)))
            have ch229 : CHr Z consts_1 s.vm h0 s.vm h226 := ch225.trans (CHr.wr W226 sf230 ch225.1)
            refine FinH.by (fun tt_ kk_ => XS.dup X226.here hx rfl (hb hby d_method_3_103) rfl rfl (XS.iconst X226.here hx rfl (hb hby d_method_3_104) (XS.iloadN X226.here hx rfl (hb hby d_method_3_105) rfl kk_))) ?_
            obtain ⟨cl231, Ar231, q231, S231, N231, H231, G231⟩ := id V226
            obtain ⟨T231, h231, X231, e231, W231, st231⟩ := stC X226 hx hZ e226 Ar231 (j := (1 : Int32)) (inb_of S231 ⟨by decide, by decide⟩) (g := (mkF m 106 #[.val (.int nn), .val (.int c0), .val (.int c1), .val (.int c2), .val (.int c3), .val (.int c4)] [(.int c1), (.int 1), (.ref a224), (.ref a224), (.ref a222), (.ref a222)])) rfl rfl (hb hby d_method_3_106)
            have V231 : Arv Z h231 a224 k224 .char (4 : Int32) [(.int (nar .char c0)), (.int (nar .char c1)), (.int (0 : Int32)), (.int (0 : Int32))] (.int (0 : Int32)) := Arv.set Ar231 q231 S231 N231 H231 G231 (fits_nar_char _) W231 1 rfl (Nat.le_of_ble_eq_true rfl)
            refine FinH.by (fun tt_ kk_ => st231 tt_ kk_) ?_
            have N231_ := Fr.snoc X231 N226_ g227
            have sf233 : Safe Z consts_1 s.vm h226 a224 := (Safe.wr W226 sf230 ch225.1 sf230)
            have ch232 : CHr Z consts_1 s.vm h0 s.vm h231 := ch229.trans (CHr.wr W231 sf233 ch229.1)
            refine FinH.by (fun tt_ kk_ => XS.dup X231.here hx rfl (hb hby d_method_3_107) rfl rfl (XS.iconst X231.here hx rfl (hb hby d_method_3_108) (XS.iloadN X231.here hx rfl (hb hby d_method_3_109) rfl kk_))) ?_
            obtain ⟨cl234, Ar234, q234, S234, N234, H234, G234⟩ := id V231
            obtain ⟨T234, h234, X234, e234, W234, st234⟩ := stC X231 hx hZ e231 Ar234 (j := (2 : Int32)) (inb_of S234 ⟨by decide, by decide⟩) (g := (mkF m 110 #[.val (.int nn), .val (.int c0), .val (.int c1), .val (.int c2), .val (.int c3), .val (.int c4)] [(.int c2), (.int 2), (.ref a224), (.ref a224), (.ref a222), (.ref a222)])) rfl rfl (hb hby d_method_3_110)
            have V234 : Arv Z h234 a224 k224 .char (4 : Int32) [(.int (nar .char c0)), (.int (nar .char c1)), (.int (nar .char c2)), (.int (0 : Int32))] (.int (0 : Int32)) := Arv.set Ar234 q234 S234 N234 H234 G234 (fits_nar_char _) W234 2 rfl (Nat.le_of_ble_eq_true rfl)
            refine FinH.by (fun tt_ kk_ => st234 tt_ kk_) ?_
            have N234_ := Fr.snoc X234 N231_ g227
            have sf236 : Safe Z consts_1 s.vm h231 a224 := (Safe.wr W231 sf233 ch229.1 sf233)
            have ch235 : CHr Z consts_1 s.vm h0 s.vm h234 := ch232.trans (CHr.wr W234 sf236 ch232.1)
            refine FinH.by (fun tt_ kk_ => XS.dup X234.here hx rfl (hb hby d_method_3_111) rfl rfl (XS.iconst X234.here hx rfl (hb hby d_method_3_112) (XS.iload X234.here hx rfl (hb hby d_method_3_113) rfl kk_))) ?_
            obtain ⟨cl237, Ar237, q237, S237, N237, H237, G237⟩ := id V234
            obtain ⟨T237, h237, X237, e237, W237, st237⟩ := stC X234 hx hZ e234 Ar237 (j := (3 : Int32)) (inb_of S237 ⟨by decide, by decide⟩) (g := (mkF m 115 #[.val (.int nn), .val (.int c0), .val (.int c1), .val (.int c2), .val (.int c3), .val (.int c4)] [(.int c3), (.int 3), (.ref a224), (.ref a224), (.ref a222), (.ref a222)])) rfl rfl (hb hby d_method_3_115)
            have V237 : Arv Z h237 a224 k224 .char (4 : Int32) [(.int (nar .char c0)), (.int (nar .char c1)), (.int (nar .char c2)), (.int (nar .char c3))] (.int (0 : Int32)) := Arv.set Ar237 q237 S237 N237 H237 G237 (fits_nar_char _) W237 3 rfl (Nat.le_of_ble_eq_true rfl)
            refine FinH.by (fun tt_ kk_ => st237 tt_ kk_) ?_
            have N237_ := Fr.snoc X237 N234_ g227
            have sf239 : Safe Z consts_1 s.vm h234 a224 := (Safe.wr W234 sf236 ch232.1 sf236)
            have ch238 : CHr Z consts_1 s.vm h0 s.vm h237 := ch235.trans (CHr.wr W237 sf239 ch235.1)
            have E240 : Exa Z h237 a222 "java/lang/String" := (((((A222.ext E224).wr W226).wr W231).wr W234).wr W237)
            have ne241 : a222 ≠ a224 := Nat.ne_of_lt (Nat.lt_of_lt_of_le A222.lt (Nat.le_of_eq g224.symm))
            have F242 : Fld Z h237 a222 "java/lang/String" "value" "[B" .null := ((((((D222 (Or.inr (w_ hw 22 rfl)) (ty := (.array .byte)) (by decide) : Fld Z h222 a222 "java/lang/String" "value" "[B" .null).ext E224).other W226 (Or.inl ne241)).other W231 (Or.inl ne241)).other W234 (Or.inl ne241)).other W237 (Or.inl ne241))
            have F243 : Fld Z h237 a222 "java/lang/String" "coder" "B" (.int (0 : Int32)) := ((((((D222 (Or.inr (w_ hw 23 rfl)) (ty := .byte) (by decide) : Fld Z h222 a222 "java/lang/String" "coder" "B" (.int (0 : Int32))).ext E224).other W226 (Or.inl ne241)).other W231 (Or.inl ne241)).other W234 (Or.inl ne241)).other W237 (Or.inl ne241))
            have g244 : n0 ≤ a222 := Nat.le_trans Z0 (Nat.le_of_eq g222.symm)
            have O245 : Old Z n0 h237 := ((((((OL.ext E222).ext E224).wr W226 g227).wr W231 g227).wr W234 g227).wr W237 g227)
            have z246 : n0 ≤ h237.size := Nat.le_trans Z0 (Nat.le_trans (Nat.le_trans (Nat.le_trans (Nat.le_trans (Nat.le_trans E222.1 E224.1) (Keep.of_wr W226).1) (Keep.of_wr W231).1) (Keep.of_wr W234).1) (Keep.of_wr W237).1)
            obtain ⟨v247, _, ⟨T247, L247, k247, n247⟩, -, X247, ⟨Lc247, hQ247, l247, y247, z247⟩, st247⟩ := X237.specialBack hx (y := y_24) rfl hown (mvT hZ (w_ hw 10 rfl)) (mvT hZ (w_ hw 11 rfl)) (mvT hZ (w_ hw 12 rfl)) (by decide) (backOf (W := 1) (rm_n1g l Z a0 hw [] a222 a224 k224 ([(nar .char c0), (nar .char c1), (nar .char c2), (nar .char c3)] : List Int32) G1 h237 n0 z246 E240 F242 F243 g244 V237 (Nat.le_of_ble_eq_true rfl) (own_cons (own_nb _) (own_cons (own_nb _) (own_cons (own_nb _) (own_cons (own_nb _) own_nil)))) (Nat.le_of_ble_eq_true rfl) S1 P1 S6 S7 S8 O245) hZ (w_ hw 12 rfl) (w_ hw 8 rfl) (by decide) (by decide)) (g := (mkF m 116 #[.val (.int nn), .val (.int c0), .val (.int c1), .val (.int c2), .val (.int c3), .val (.int c4)] [(.ref a224), (.ref a222), (.ref a222)])) rfl (by rw [hml]; rfl) (Steps.refl _) (a := a222) (argsL := [(.ref a224)]) (rest := [(.ref a222)]) (lenOf pd_389 rfl) rfl (by show 2 * 0 + _ ≤ _; exact Nat.le_of_eq rfl) (hb hby d_method_3_116) (fun _ _ => ⟨rfl, e237, (by decide : 2 + 2 ≤ _), (by decide : 8 + 15 ≤ _)⟩)
            dsimp only [Pt.U, Pt.locs, Pt.cells, Pt.slots] at X247 l247 y247 z247 st247 hQ247
            subst l247 y247 z247
            obtain ⟨t248, k249, cd250, N251, vs252, rfl, Nq247, p247_0, p247_1, p247_2, p247_3, p247_4, p247_5, p247_6⟩ := hQ247
            have N247_ := Fr.app N237_ Nq247
            refine FinH.byS st247 ?_
            have sf254 : Safe Z consts_1 s.vm h222 a222 := (Safe.ext E222 ch0.1 (Safe.new (Nat.le_of_eq g222.symm)))
            have sf255 : Safe Z consts_1 s.vm h224 a222 := (Safe.ext E224 ch223.1 sf254)
            have sf256 : Safe Z consts_1 s.vm h226 a222 := (Safe.wr W226 sf230 ch225.1 sf255)
            have sf257 : Safe Z consts_1 s.vm h231 a222 := (Safe.wr W231 sf233 ch229.1 sf256)
            have sf258 : Safe Z consts_1 s.vm h234 a222 := (Safe.wr W234 sf236 ch232.1 sf257)
            have sf259 : Safe Z consts_1 s.vm h237 a222 := (Safe.wr W237 sf239 ch235.1 sf258)
            have ch253 : CHr Z consts_1 s.vm h0 s.vm T247.heap := ch238.trans (CHr.keep p247_0 (allS sf259 all0) ch238.1)
            have kp260 : Keep h0 h222 [] := (Keep.refl h0 []).ext E222
            have kp261 : Keep h0 h224 [] := kp260.ext E224
            have kp262 : Keep h0 h226 [] := kp261.wr W226 (Or.inr (Nat.le_trans E222.1 (Nat.le_of_eq g224.symm)))
            have kp263 : Keep h0 h231 [] := kp262.wr W231 (Or.inr (Nat.le_trans E222.1 (Nat.le_of_eq g224.symm)))
            have kp264 : Keep h0 h234 [] := kp263.wr W234 (Or.inr (Nat.le_trans E222.1 (Nat.le_of_eq g224.symm)))
            have kp265 : Keep h0 h237 [] := kp264.wr W237 (Or.inr (Nat.le_trans E222.1 (Nat.le_of_eq g224.symm)))
            have kp266 : Keep h0 T247.heap [] := kp265.trans p247_0 (allS (Or.inr (Nat.le_trans (Nat.le_refl _) (Nat.le_of_eq g222.symm))) all0)
            show FinH _ _ _ _ _ _ _ _ _ (T247.setTop (mkF m 119 #[.val (.int nn), .val (.int c0), .val (.int c1), .val (.int c2), .val (.int c3), .val (.int c4)] [(.ref a222)]))
            exact FinH.ret (v := some (.ref a222)) X247 hS0 ((Nat.le_trans hk0 (Nat.le_trans (Nat.le_trans (Nat.le_trans (Nat.le_trans (Nat.le_trans (Nat.le_trans E222.1 E224.1) (Keep.of_wr W226).1) (Keep.of_wr W231).1) (Keep.of_wr W234).1) (Keep.of_wr W237).1) p247_0.1))) (fun h => by rw [Bd.returns] at h; cases h) Bd.notSynchronized (⟨a222, t248, k249, N251, vs252, cd250, rfl, N247_, kp266, p247_2, p247_3, p247_4, p247_5, (by unfold own_mk; rw [if_neg hm0, if_neg hm1, if_neg hm2, if_neg hm3, if_pos hm4]; exact p247_6)⟩) (by rw [hh]; exact ch253.trans (CHv.at X247 hZ own_EW ch253.1)) (by decide) (by decide) (fun fs hr => retA X247 hx Bd.returns rfl rfl (hb hby d_method_3_119) hr)
          · refine FinH.by (fun tt_ kk_ => XS.icmpYes X0.here hx rfl (pc0 := 89) (pc' := 120) rfl (hb hby d_method_3_89) rfl (feq hm4).2 (by decide) (by decide) kk_) ?_
            obtain ⟨T267, h267, X267, e267, E267, A267, D267, -, st267⟩ := newO X0 hx hZ hown (w_ hw 6 rfl) (w_ hw 7 rfl) (w_ hw 8 rfl) e0 (g := (mkF m 120 #[.val (.int nn), .val (.int c0), .val (.int c1), .val (.int c2), .val (.int c3), .val (.int c4)] [])) rfl (hb hby d_method_3_120) (by decide) (by decide)
            obtain ⟨a267, g267⟩ : ∃ z, z = h0.size := ⟨_, rfl⟩
            rw [← g267] at A267 D267 st267
            refine FinH.by (fun tt_ kk_ => st267 tt_ kk_) ?_
            have ch268 : CHr Z consts_1 s.vm h0 s.vm h267 := ch0.trans (CHr.ext E267 ch0.1)
            refine FinH.by (fun tt_ kk_ => XS.dup X267.here hx rfl (hb hby d_method_3_123) rfl rfl (XS.iconst X267.here hx rfl (hb hby d_method_3_124) kk_)) ?_
            obtain ⟨T269, h269, k269, X269, e269, E269, A269, st269⟩ := newP X267 hx hZ (w_ hw 9 rfl) e267 (g := (mkF m 125 #[.val (.int nn), .val (.int c0), .val (.int c1), .val (.int c2), .val (.int c3), .val (.int c4)] [(.int 5), (.ref a267), (.ref a267)])) rfl (hb hby d_method_3_125) rfl (by decide) (cap := 5) (by decide) (by decide) (by decide) (by decide)
            obtain ⟨a269, g269⟩ : ∃ z, z = h267.size := ⟨_, rfl⟩
            rw [← g269] at A269 st269
            refine FinH.by (fun tt_ kk_ => st269 tt_ kk_) ?_
            have ch270 : CHr Z consts_1 s.vm h0 s.vm h269 := ch268.trans (CHr.ext E269 ch268.1)
            have V269 : Arv Z h269 a269 k269 .char (5 : Int32) [(.int (0 : Int32)), (.int (0 : Int32)), (.int (0 : Int32)), (.int (0 : Int32)), (.int (0 : Int32))] (.int (0 : Int32)) := (Arv.new A269 (by decide)).pad (pad_rep [] (.int (0 : Int32)) 5)
            refine FinH.by (fun tt_ kk_ => XS.dup X269.here hx rfl (hb hby d_method_3_127) rfl rfl (XS.iconst X269.here hx rfl (hb hby d_method_3_128) (XS.iloadN X269.here hx rfl (hb hby d_method_3_129) rfl kk_))) ?_
            obtain ⟨cl271, Ar271, q271, S271, N271, H271, G271⟩ := id V269
            obtain ⟨T271, h271, X271, e271, W271, st271⟩ := stC X269 hx hZ e269 Ar271 (j := (0 : Int32)) (inb_of S271 ⟨by decide, by decide⟩) (g := (mkF m 130 #[.val (.int nn), .val (.int c0), .val (.int c1), .val (.int c2), .val (.int c3), .val (.int c4)] [(.int c0), (.int 0), (.ref a269), (.ref a269), (.ref a267), (.ref a267)])) rfl rfl (hb hby d_method_3_130)
            have V271 : Arv Z h271 a269 k269 .char (5 : Int32) [(.int (nar .char c0)), (.int (0 : Int32)), (.int (0 : Int32)), (.int (0 : Int32)), (.int (0 : Int32))] (.int (0 : Int32)) := Arv.set Ar271 q271 S271 N271 H271 G271 (fits_nar_char _) W271 0 rfl (Nat.le_of_ble_eq_true rfl)
            have z273 : n0 ≤ h267.size := Nat.le_trans Z0 E267.1
            have g272 : n0 ≤ a269 := Nat.le_trans z273 (Nat.le_of_eq g269.symm)
            refine FinH.by (fun tt_ kk_ => st271 tt_ kk_) ?_
            have N271_ := Fr.snoc X271 N0 g272
            have sf275 : Safe Z consts_1 s.vm h269 a269 := (Safe.ext E269 ch268.1 (Safe.new (Nat.le_of_eq g269.symm)))
            have ch274 : CHr Z consts_1 s.vm h0 s.vm h271 := ch270.trans (CHr.wr W271 sf275 ch270.1)
            refine FinH.by (fun tt_ kk_ => XS.dup X271.here hx rfl (hb hby d_method_3_131) rfl rfl (XS.iconst X271.here hx rfl (hb hby d_method_3_132) (XS.iloadN X271.here hx rfl (hb hby d_method_3_133) rfl kk_))) ?_
            obtain ⟨cl276, Ar276, q276, S276, N276, H276, G276⟩ := id V271
            obtain ⟨T276, h276, X276, e276, W276, st276⟩ := stC X271 hx hZ e271 Ar276 (j := (1 : Int32)) (inb_of S276 ⟨by decide, by decide⟩) (g := (mkF m 134 #[.val (.int nn), .val (.int c0), .val (.int c1), .val (.int c2), .val (.int c3), .val (.int c4)] [(.int c1), (.int 1), (.ref a269), (.ref a269), (.ref a267), (.ref a267)])) rfl rfl (hb hby d_method_3_134)
            have V276 : Arv Z h276 a269 k269 .char (5 : Int32) [(.int (nar .char c0)), (.int (nar .char c1)), (.int (0 : Int32)), (.int (0 : Int32)), (.int (0 : Int32))] (.int (0 : Int32)) := Arv.set Ar276 q276 S276 N276 H276 G276 (fits_nar_char _) W276 1 rfl (Nat.le_of_ble_eq_true rfl)
            refine FinH.by (fun tt_ kk_ => st276 tt_ kk_) ?_
            have N276_ := Fr.snoc X276 N271_ g272
            have sf278 : Safe Z consts_1 s.vm h271 a269 := (Safe.wr W271 sf275 ch270.1 sf275)
            have ch277 : CHr Z consts_1 s.vm h0 s.vm h276 := ch274.trans (CHr.wr W276 sf278 ch274.1)
            refine FinH.by (fun tt_ kk_ => XS.dup X276.here hx rfl (hb hby d_method_3_135) rfl rfl (XS.iconst X276.here hx rfl (hb hby d_method_3_136) (XS.iloadN X276.here hx rfl (hb hby d_method_3_137) rfl kk_))) ?_
            obtain ⟨cl279, Ar279, q279, S279, N279, H279, G279⟩ := id V276
            obtain ⟨T279, h279, X279, e279, W279, st279⟩ := stC X276 hx hZ e276 Ar279 (j := (2 : Int32)) (inb_of S279 ⟨by decide, by decide⟩) (g := (mkF m 138 #[.val (.int nn), .val (.int c0), .val (.int c1), .val (.int c2), .val (.int c3), .val (.int c4)] [(.int c2), (.int 2), (.ref a269), (.ref a269), (.ref a267), (.ref a267)])) rfl rfl (hb hby d_method_3_138)
            have V279 : Arv Z h279 a269 k269 .char (5 : Int32) [(.int (nar .char c0)), (.int (nar .char c1)), (.int (nar .char c2)), (.int (0 : Int32)), (.int (0 : Int32))] (.int (0 : Int32)) := Arv.set Ar279 q279 S279 N279 H279 G279 (fits_nar_char _) W279 2 rfl (Nat.le_of_ble_eq_true rfl)
            refine FinH.by (fun tt_ kk_ => st279 tt_ kk_) ?_
            have N279_ := Fr.snoc X279 N276_ g272
            have sf281 : Safe Z consts_1 s.vm h276 a269 := (Safe.wr W276 sf278 ch274.1 sf278)
            have ch280 : CHr Z consts_1 s.vm h0 s.vm h279 := ch277.trans (CHr.wr W279 sf281 ch277.1)
            refine FinH.by (fun tt_ kk_ => XS.dup X279.here hx rfl (hb hby d_method_3_139) rfl rfl (XS.iconst X279.here hx rfl (hb hby d_method_3_140) (XS.iload X279.here hx rfl (hb hby d_method_3_141) rfl kk_))) ?_
            obtain ⟨cl282, Ar282, q282, S282, N282, H282, G282⟩ := id V279
            obtain ⟨T282, h282, X282, e282, W282, st282⟩ := stC X279 hx hZ e279 Ar282 (j := (3 : Int32)) (inb_of S282 ⟨by decide, by decide⟩) (g := (mkF m 143 #[.val (.int nn), .val (.int c0), .val (.int c1), .val (.int c2), .val (.int c3), .val (.int c4)] [(.int c3), (.int 3), (.ref a269), (.ref a269), (.ref a267), (.ref a267)])) rfl rfl (hb hby d_method_3_143)
            have V282 : Arv Z h282 a269 k269 .char (5 : Int32) [(.int (nar .char c0)), (.int (nar .char c1)), (.int (nar .char c2)), (.int (nar .char c3)), (.int (0 : Int32))] (.int (0 : Int32)) := Arv.set Ar282 q282 S282 N282 H282 G282 (fits_nar_char _) W282 3 rfl (Nat.le_of_ble_eq_true rfl)
            refine FinH.by (fun tt_ kk_ => st282 tt_ kk_) ?_
            have N282_ := Fr.snoc X282 N279_ g272
            have sf284 : Safe Z consts_1 s.vm h279 a269 := (Safe.wr W279 sf281 ch277.1 sf281)
            have ch283 : CHr Z consts_1 s.vm h0 s.vm h282 := ch280.trans (CHr.wr W282 sf284 ch280.1)
            refine FinH.by (fun tt_ kk_ => XS.dup X282.here hx rfl (hb hby d_method_3_144) rfl rfl (XS.iconst X282.here hx rfl (hb hby d_method_3_145) (XS.iload X282.here hx rfl (hb hby d_method_3_146) rfl kk_))) ?_
            obtain ⟨cl285, Ar285, q285, S285, N285, H285, G285⟩ := id V282
            obtain ⟨T285, h285, X285, e285, W285, st285⟩ := stC X282 hx hZ e282 Ar285 (j := (4 : Int32)) (inb_of S285 ⟨by decide, by decide⟩) (g := (mkF m 148 #[.val (.int nn), .val (.int c0), .val (.int c1), .val (.int c2), .val (.int c3), .val (.int c4)] [(.int c4), (.int 4), (.ref a269), (.ref a269), (.ref a267), (.ref a267)])) rfl rfl (hb hby d_method_3_148)
            have V285 : Arv Z h285 a269 k269 .char (5 : Int32) [(.int (nar .char c0)), (.int (nar .char c1)), (.int (nar .char c2)), (.int (nar .char c3)), (.int (nar .char c4))] (.int (0 : Int32)) := Arv.set Ar285 q285 S285 N285 H285 G285 (fits_nar_char _) W285 4 rfl (Nat.le_of_ble_eq_true rfl)
            refine FinH.by (fun tt_ kk_ => st285 tt_ kk_) ?_
            have N285_ := Fr.snoc X285 N282_ g272
            have sf287 : Safe Z consts_1 s.vm h282 a269 := (Safe.wr W282 sf284 ch280.1 sf284)
            have ch286 : CHr Z consts_1 s.vm h0 s.vm h285 := ch283.trans (CHr.wr W285 sf287 ch283.1)
            have E288 : Exa Z h285 a267 "java/lang/String" := ((((((A267.ext E269).wr W271).wr W276).wr W279).wr W282).wr W285)
            have ne289 : a267 ≠ a269 := Nat.ne_of_lt (Nat.lt_of_lt_of_le A267.lt (Nat.le_of_eq g269.symm))
            have F290 : Fld Z h285 a267 "java/lang/String" "value" "[B" .null := (((((((D267 (Or.inr (w_ hw 22 rfl)) (ty := (.array .byte)) (by decide) : Fld Z h267 a267 "java/lang/String" "value" "[B" .null).ext E269).other W271 (Or.inl ne289)).other W276 (Or.inl ne289)).other W279 (Or.inl ne289)).other W282 (Or.inl ne289)).other W285 (Or.inl ne289))
            have F291 : Fld Z h285 a267 "java/lang/String" "coder" "B" (.int (0 : Int32)) := (((((((D267 (Or.inr (w_ hw 23 rfl)) (ty := .byte) (by decide) : Fld Z h267 a267 "java/lang/String" "coder" "B" (.int (0 : Int32))).ext E269).other W271 (Or.inl ne289)).other W276 (Or.inl ne289)).other W279 (Or.inl ne289)).other W282 (Or.inl ne289)).other W285 (Or.inl ne289))
            have g292 : n0 ≤ a267 := Nat.le_trans Z0 (Nat.le_of_eq g267.symm)
            have O293 : Old Z n0 h285 := (((((((OL.ext E267).ext E269).wr W271 g272).wr W276 g272).wr W279 g272).wr W282 g272).wr W285 g272)
            have z294 : n0 ≤ h285.size := Nat.le_trans Z0 (Nat.le_trans (Nat.le_trans (Nat.le_trans (Nat.le_trans (Nat.le_trans (Nat.le_trans E267.1 E269.1) (Keep.of_wr W271).1) (Keep.of_wr W276).1) (Keep.of_wr W279).1) (Keep.of_wr W282).1) (Keep.of_wr W285).1)
            obtain ⟨v295, _, ⟨T295, L295, k295, n295⟩, -, X295, ⟨Lc295, hQ295, l295, y295, z295⟩, st295⟩ := X285.specialBack hx (y := y_24) rfl hown (mvT hZ (w_ hw 10 rfl)) (mvT hZ (w_ hw 11 rfl)) (mvT hZ (w_ hw 12 rfl)) (by decide) (backOf (W := 1) (rm_n1g l Z a0 hw [] a267 a269 k269 ([(nar .char c0), (nar .char c1), (nar .char c2), (nar .char c3), (nar .char c4)] : List Int32) G1 h285 n0 z294 E288 F290 F291 g292 V285 (Nat.le_of_ble_eq_true rfl) (own_cons (own_nb _) (own_cons (own_nb _) (own_cons (own_nb _) (own_cons (own_nb _) (own_cons (own_nb _) own_nil))))) (Nat.le_of_ble_eq_true rfl) S1 P1 S6 S7 S8 O293) hZ (w_ hw 12 rfl) (w_ hw 8 rfl) (by decide) (by decide)) (g := (mkF m 149 #[.val (.int nn), .val (.int c0), .val (.int c1), .val (.int c2), .val (.int c3), .val (.int c4)] [(.ref a269), (.ref a267), (.ref a267)])) rfl (by rw [hml]; rfl) (Steps.refl _) (a := a267) (argsL := [(.ref a269)]) (rest := [(.ref a267)]) (lenOf pd_389 rfl) rfl (by show 2 * 0 + _ ≤ _; exact Nat.le_of_eq rfl) (hb hby d_method_3_149) (fun _ _ => ⟨rfl, e285, (by decide : 2 + 2 ≤ _), (by decide : 9 + 15 ≤ _)⟩)
            dsimp only [Pt.U, Pt.locs, Pt.cells, Pt.slots] at X295 l295 y295 z295 st295 hQ295
            subst l295 y295 z295
            obtain ⟨t296, k297, cd298, N299, vs300, rfl, Nq295, p295_0, p295_1, p295_2, p295_3, p295_4, p295_5, p295_6⟩ := hQ295
            have N295_ := Fr.app N285_ Nq295
            refine FinH.byS st295 ?_
            have sf302 : Safe Z consts_1 s.vm h267 a267 := (Safe.ext E267 ch0.1 (Safe.new (Nat.le_of_eq g267.symm)))
            have sf303 : Safe Z consts_1 s.vm h269 a267 := (Safe.ext E269 ch268.1 sf302)
            have sf304 : Safe Z consts_1 s.vm h271 a267 := (Safe.wr W271 sf275 ch270.1 sf303)
            have sf305 : Safe Z consts_1 s.vm h276 a267 := (Safe.wr W276 sf278 ch274.1 sf304)
            have sf306 : Safe Z consts_1 s.vm h279 a267 := (Safe.wr W279 sf281 ch277.1 sf305)
            have sf307 : Safe Z consts_1 s.vm h282 a267 := (Safe.wr W282 sf284 ch280.1 sf306)
            have sf308 : Safe Z consts_1 s.vm h285 a267 := (Safe.wr W285 sf287 ch283.1 sf307)
            have ch301 : CHr Z consts_1 s.vm h0 s.vm T295.heap := ch286.trans (CHr.keep p295_0 (allS sf308 all0) ch286.1)
            have kp309 : Keep h0 h267 [] := (Keep.refl h0 []).ext E267
            have kp310 : Keep h0 h269 [] := kp309.ext E269
            have kp311 : Keep h0 h271 [] := kp310.wr W271 (Or.inr (Nat.le_trans E267.1 (Nat.le_of_eq g269.symm)))
            have kp312 : Keep h0 h276 [] := kp311.wr W276 (Or.inr (Nat.le_trans E267.1 (Nat.le_of_eq g269.symm)))
            have kp313 : Keep h0 h279 [] := kp312.wr W279 (Or.inr (Nat.le_trans E267.1 (Nat.le_of_eq g269.symm)))
            have kp314 : Keep h0 h282 [] := kp313.wr W282 (Or.inr (Nat.le_trans E267.1 (Nat.le_of_eq g269.symm)))
            have kp315 : Keep h0 h285 [] := kp314.wr W285 (Or.inr (Nat.le_trans E267.1 (Nat.le_of_eq g269.symm)))
            have kp316 : Keep h0 T295.heap [] := kp315.trans p295_0 (allS (Or.inr (Nat.le_trans (Nat.le_refl _) (Nat.le_of_eq g267.symm))) all0)
            show FinH _ _ _ _ _ _ _ _ _ (T295.setTop (mkF m 152 #[.val (.int nn), .val (.int c0), .val (.int c1), .val (.int c2), .val (.int c3), .val (.int c4)] [(.ref a267)]))
            exact FinH.ret (v := some (.ref a267)) X295 hS0 ((Nat.le_trans hk0 (Nat.le_trans (Nat.le_trans (Nat.le_trans (Nat.le_trans (Nat.le_trans (Nat.le_trans (Nat.le_trans E267.1 E269.1) (Keep.of_wr W271).1) (Keep.of_wr W276).1) (Keep.of_wr W279).1) (Keep.of_wr W282).1) (Keep.of_wr W285).1) p295_0.1))) (fun h => by rw [Bd.returns] at h; cases h) Bd.notSynchronized (⟨a267, t296, k297, N299, vs300, cd298, rfl, N295_, kp316, p295_2, p295_3, p295_4, p295_5, (by unfold own_mk; rw [if_neg hm0, if_neg hm1, if_neg hm2, if_neg hm3, if_neg hm4]; exact p295_6)⟩) (by rw [hh]; exact ch301.trans (CHv.at X295 hZ own_EW ch301.1)) (by decide) (by decide) (fun fs hr => retA X295 hx Bd.returns rfl rfl (hb hby d_method_3_152) hr)
theorem d_prog_106_method_4_0 : decode prog_106_method_4_code 0 = .ok (.iload_n 0, 1) := by decide +kernel
theorem d_prog_106_method_4_1 : decode prog_106_method_4_code 1 = .ok (.bipush 65, 2) := by decide +kernel
theorem d_prog_106_method_4_3 : decode prog_106_method_4_code 3 = .ok (.if_icmp .lt 17, 3) := by decide +kernel
theorem d_prog_106_method_4_20 : decode prog_106_method_4_code 20 = .ok (.iload_n 0, 1) := by decide +kernel
theorem d_prog_106_method_4_21 : decode prog_106_method_4_code 21 = .ok (.ireturn, 1) := by decide +kernel
theorem d_prog_106_method_4_6 : decode prog_106_method_4_code 6 = .ok (.iload_n 0, 1) := by decide +kernel
theorem d_prog_106_method_4_7 : decode prog_106_method_4_code 7 = .ok (.bipush 90, 2) := by decide +kernel
theorem d_prog_106_method_4_9 : decode prog_106_method_4_code 9 = .ok (.if_icmp .gt 11, 3) := by decide +kernel
theorem d_prog_106_method_4_12 : decode prog_106_method_4_code 12 = .ok (.iload_n 0, 1) := by decide +kernel
theorem d_prog_106_method_4_13 : decode prog_106_method_4_code 13 = .ok (.bipush 32, 2) := by decide +kernel
theorem d_prog_106_method_4_15 : decode prog_106_method_4_code 15 = .ok (.iadd, 1) := by decide +kernel
theorem d_prog_106_method_4_16 : decode prog_106_method_4_code 16 = .ok (.i2c, 1) := by decide +kernel
theorem d_prog_106_method_4_17 : decode prog_106_method_4_code 17 = .ok (.goto 4, 3) := by decide +kernel
theorem pn_com_example_colonnade_colonnade_TokenValues : plainName "com/example/colonnade/colonnade/TokenValues" = true := by first | (simp [plainName, overriddenIn]; done) | decide +kernel
def Q_alc (Z : State) (z : Int32) (h0 : Heap) (n0 : Nat) (vv_ : Option Value) (hh_ : Heap) (LL_ : List Loc) : Prop := vv_ = some (.int (nar .char (own_low z))) ∧ Fr n0 LL_ ∧ hh_ = h0
set_option maxRecDepth 65536 in
set_option maxHeartbeats 40000000 in
theorem rm_alc (l : Launch) (Z : State) (a0 : Array Value) (hw : ∀ d ∈ tables_1, d.before a0 Z = true) (ws : List Jvm.Cond) (z : Int32) (h0 : Heap) (n0 : Nat) (Z0 : n0 ≤ h0.size) :
    MetFree l (⟨"com/example/colonnade/colonnade/TokenValues", "asciiLowerCase", "(C)C"⟩ : MethodName) (head1 (Jvm.Cond.code (⟨"com/example/colonnade/colonnade/TokenValues", "asciiLowerCase", "(C)C"⟩ : MethodName) prog_106_method_4_code 1 (some .char) :: ws) ({ frames := 0, cells := 0, slots := 0, locals := 0 } : Room)) (fun aa_ U => aa_ = #[(.int z)] ∧ Z.Warmed39 U.vm ∧ U.heap = h0) (fun _ _ _ _ _ => True) (fun _ U o U' => ∃ vv_ LL_, o = .returned vv_ ∧ Q_alc Z z h0 n0 vv_ U'.heap LL_ ∧ FrameEnd U o U' LL_ 0 0) := by
  refine MetFree.of_bodySF (plainFor_of_name pn_com_example_colonnade_colonnade_TokenValues) hisR ?_
  intro p e s m args below meth c s₁ Bd hml0 hP hK
  obtain ⟨rfl, hZ, hh⟩ := hP
  have hx := Bd.exec
  have hby := Bd.bytes
  have hml : c.maxLocals = 1 := hml0
  have hown : s.vm.findClass "com/example/colonnade/colonnade/TokenValues" = some m.cls := findClass_of_methodNamed Bd.named
  have hnm := (name_of_methodNamed Bd.named Bd.method).1
  have X0 : Stand p l e ({ frames := 0, cells := 0, slots := 0, locals := 0 } : Room) s m #[(.int z)] below meth c s₁ [] 0 0 := Stand.of_body Bd
  have e0 : s₁.heap = h0 := by rw [← hh, Bd.state]; rfl
  have N0 := Fr.nil n0
  have ef : entryFrame m #[(.int z)] 1 = mkF m 0 #[.val (.int z)] [] := by first | (simp [entryFrame, mkF, argsToLocals, Value.category]; done) | rfl
  refine Fin.start (Q := Q_alc Z z h0 n0) ef ?_
  refine Fin.by (fun tt_ kk_ => XS.iloadN X0.here hx rfl (hb hby d_prog_106_method_4_0) rfl (XS.bipush X0.here hx rfl (hb hby d_prog_106_method_4_1) kk_)) ?_
  show Fin _ _ _ _ _ _ _ (s₁.setTop (mkF m 3 #[.val (.int z)] [(.int 65), (.int z)]))
  by_cases h1 : z < (65 : Int32)
  · refine Fin.by (fun tt_ kk_ => XS.icmpYes X0.here hx rfl (pc0 := 3) (pc' := 20) rfl (hb hby d_prog_106_method_4_3) rfl (tlt h1).1 (by decide) (by decide) kk_) ?_
    refine Fin.by (fun tt_ kk_ => XS.iloadN X0.here hx rfl (hb hby d_prog_106_method_4_20) rfl kk_) ?_
    show Fin _ _ _ _ _ _ _ (s₁.setTop (mkF m 21 #[.val (.int z)] [(.int z)]))
    exact Fin.ret (v := some (.int (nar .char z))) X0 (fun h => by rw [Bd.returns] at h; cases h) Bd.notSynchronized (by rw [e0]; exact ⟨(by unfold own_low; rw [if_pos h1]), N0, rfl⟩) (by decide) (by decide) (fun fs hr => retN X0 hx (t := .char) Bd.returns (by simp) (hb hby d_prog_106_method_4_21) hr)
  · refine Fin.by (fun tt_ kk_ => XS.icmpNo X0.here hx rfl (hb hby d_prog_106_method_4_3) rfl (flt h1).1 kk_) ?_
    refine Fin.by (fun tt_ kk_ => XS.iloadN X0.here hx rfl (hb hby d_prog_106_method_4_6) rfl (XS.bipush X0.here hx rfl (hb hby d_prog_106_method_4_7) kk_)) ?_
    show Fin _ _ _ _ _ _ _ (s₁.setTop (mkF m 9 #[.val (.int z)] [(.int 90), (.int z)]))
    by_cases h2 : (90 : Int32) < z
    · refine Fin.by (fun tt_ kk_ => XS.icmpYes X0.here hx rfl (pc0 := 9) (pc' := 20) rfl (hb hby d_prog_106_method_4_9) rfl (tlt h2).2.2.1 (by decide) (by decide) kk_) ?_
      refine Fin.by (fun tt_ kk_ => XS.iloadN X0.here hx rfl (hb hby d_prog_106_method_4_20) rfl kk_) ?_
      show Fin _ _ _ _ _ _ _ (s₁.setTop (mkF m 21 #[.val (.int z)] [(.int z)]))
      exact Fin.ret (v := some (.int (nar .char z))) X0 (fun h => by rw [Bd.returns] at h; cases h) Bd.notSynchronized (by rw [e0]; exact ⟨(by unfold own_low; rw [if_neg h1, if_pos h2]), N0, rfl⟩) (by decide) (by decide) (fun fs hr => retN X0 hx (t := .char) Bd.returns (by simp) (hb hby d_prog_106_method_4_21) hr)
    · refine Fin.by (fun tt_ kk_ => XS.icmpNo X0.here hx rfl (hb hby d_prog_106_method_4_9) rfl (flt h2).2.2.1 kk_) ?_
      refine Fin.by (fun tt_ kk_ => XS.iloadN X0.here hx rfl (hb hby d_prog_106_method_4_12) rfl (XS.bipush X0.here hx rfl (hb hby d_prog_106_method_4_13) (XS.iadd X0.here hx rfl (hb hby d_prog_106_method_4_15) rfl (XS.i2c X0.here hx rfl (hb hby d_prog_106_method_4_16) rfl (XS.goto X0.here hx rfl (pc0 := 17) (pc' := 21) rfl (hb hby d_prog_106_method_4_17) (by decide) (by decide) kk_))))) ?_
      show Fin _ _ _ _ _ _ _ (s₁.setTop (mkF m 21 #[.val (.int z)] [(.int ((z + 32).toUInt32.toUInt16.toUInt32.toInt32))]))
      exact Fin.ret (v := some (.int (nar .char ((z + (32 : Int32)).toUInt32.toUInt16.toUInt32.toInt32)))) X0 (fun h => by rw [Bd.returns] at h; cases h) Bd.notSynchronized (by rw [e0]; exact ⟨(by unfold own_low; rw [if_neg h1, if_neg h2]), N0, rfl⟩) (by decide) (by decide) (fun fs hr => retN X0 hx (t := .char) Bd.returns (by simp) (hb hby d_prog_106_method_4_21) hr)
theorem d_method_2_0 : decode method_2_code 0 = .ok (.iload_n 0, 1) := by decide +kernel
theorem d_method_2_1 : decode method_2_code 1 = .ok (.bipush 65, 2) := by decide +kernel
theorem d_method_2_3 : decode method_2_code 3 = .ok (.if_icmp .lt 15, 3) := by decide +kernel
theorem d_method_2_18 : decode method_2_code 18 = .ok (.iload_n 0, 1) := by decide +kernel
theorem d_method_2_19 : decode method_2_code 19 = .ok (.ireturn, 1) := by decide +kernel
theorem d_method_2_6 : decode method_2_code 6 = .ok (.iload_n 0, 1) := by decide +kernel
theorem d_method_2_7 : decode method_2_code 7 = .ok (.bipush 90, 2) := by decide +kernel
theorem d_method_2_9 : decode method_2_code 9 = .ok (.if_icmp .gt 9, 3) := by decide +kernel
theorem d_method_2_12 : decode method_2_code 12 = .ok (.iload_n 0, 1) := by decide +kernel
theorem d_method_2_13 : decode method_2_code 13 = .ok (.bipush 32, 2) := by decide +kernel
theorem d_method_2_15 : decode method_2_code 15 = .ok (.iadd, 1) := by decide +kernel
theorem d_method_2_16 : decode method_2_code 16 = .ok (.i2c, 1) := by decide +kernel
theorem d_method_2_17 : decode method_2_code 17 = .ok (.ireturn, 1) := by decide +kernel
def Q_low (Z : State) (z : Int32) (h0 : Heap) (n0 : Nat) (vv_ : Option Value) (hh_ : Heap) (LL_ : List Loc) : Prop := vv_ = some (.int (nar .char (own_low z))) ∧ Fr n0 LL_ ∧ hh_ = h0
set_option maxRecDepth 65536 in
set_option maxHeartbeats 40000000 in
theorem rm_low (l : Launch) (Z : State) (a0 : Array Value) (hw : ∀ d ∈ tables_1, d.before a0 Z = true) (ws : List Jvm.Cond) (z : Int32) (h0 : Heap) (n0 : Nat) (Z0 : n0 ≤ h0.size) :
    MetFree l (⟨"com/example/colonnade/colonnade/TokenValuesAsciiLowerCasePinLaw", "lower", "(C)C"⟩ : MethodName) (head1 (Jvm.Cond.code (⟨"com/example/colonnade/colonnade/TokenValuesAsciiLowerCasePinLaw", "lower", "(C)C"⟩ : MethodName) method_2_code 1 (some .char) :: ws) ({ frames := 0, cells := 0, slots := 0, locals := 0 } : Room)) (fun aa_ U => aa_ = #[(.int z)] ∧ Z.Warmed39 U.vm ∧ U.heap = h0) (fun _ _ _ _ _ => True) (fun _ U o U' => ∃ vv_ LL_, o = .returned vv_ ∧ Q_low Z z h0 n0 vv_ U'.heap LL_ ∧ FrameEnd U o U' LL_ 0 0) := by
  refine MetFree.of_bodySF (plainFor_of_name pn_com_example_colonnade_colonnade_TokenValuesAsciiLowerCasePinLaw) hisR ?_
  intro p e s m args below meth c s₁ Bd hml0 hP hK
  obtain ⟨rfl, hZ, hh⟩ := hP
  have hx := Bd.exec
  have hby := Bd.bytes
  have hml : c.maxLocals = 1 := hml0
  have hown : s.vm.findClass "com/example/colonnade/colonnade/TokenValuesAsciiLowerCasePinLaw" = some m.cls := findClass_of_methodNamed Bd.named
  have hnm := (name_of_methodNamed Bd.named Bd.method).1
  have X0 : Stand p l e ({ frames := 0, cells := 0, slots := 0, locals := 0 } : Room) s m #[(.int z)] below meth c s₁ [] 0 0 := Stand.of_body Bd
  have e0 : s₁.heap = h0 := by rw [← hh, Bd.state]; rfl
  have N0 := Fr.nil n0
  have ef : entryFrame m #[(.int z)] 1 = mkF m 0 #[.val (.int z)] [] := by first | (simp [entryFrame, mkF, argsToLocals, Value.category]; done) | rfl
  refine Fin.start (Q := Q_low Z z h0 n0) ef ?_
  refine Fin.by (fun tt_ kk_ => XS.iloadN X0.here hx rfl (hb hby d_method_2_0) rfl (XS.bipush X0.here hx rfl (hb hby d_method_2_1) kk_)) ?_
  show Fin _ _ _ _ _ _ _ (s₁.setTop (mkF m 3 #[.val (.int z)] [(.int 65), (.int z)]))
  by_cases h1 : z < (65 : Int32)
  · refine Fin.by (fun tt_ kk_ => XS.icmpYes X0.here hx rfl (pc0 := 3) (pc' := 18) rfl (hb hby d_method_2_3) rfl (tlt h1).1 (by decide) (by decide) kk_) ?_
    refine Fin.by (fun tt_ kk_ => XS.iloadN X0.here hx rfl (hb hby d_method_2_18) rfl kk_) ?_
    show Fin _ _ _ _ _ _ _ (s₁.setTop (mkF m 19 #[.val (.int z)] [(.int z)]))
    exact Fin.ret (v := some (.int (nar .char z))) X0 (fun h => by rw [Bd.returns] at h; cases h) Bd.notSynchronized (by rw [e0]; exact ⟨(by unfold own_low; rw [if_pos h1]), N0, rfl⟩) (by decide) (by decide) (fun fs hr => retN X0 hx (t := .char) Bd.returns (by simp) (hb hby d_method_2_19) hr)
  · refine Fin.by (fun tt_ kk_ => XS.icmpNo X0.here hx rfl (hb hby d_method_2_3) rfl (flt h1).1 kk_) ?_
    refine Fin.by (fun tt_ kk_ => XS.iloadN X0.here hx rfl (hb hby d_method_2_6) rfl (XS.bipush X0.here hx rfl (hb hby d_method_2_7) kk_)) ?_
    show Fin _ _ _ _ _ _ _ (s₁.setTop (mkF m 9 #[.val (.int z)] [(.int 90), (.int z)]))
    by_cases h2 : (90 : Int32) < z
    · refine Fin.by (fun tt_ kk_ => XS.icmpYes X0.here hx rfl (pc0 := 9) (pc' := 18) rfl (hb hby d_method_2_9) rfl (tlt h2).2.2.1 (by decide) (by decide) kk_) ?_
      refine Fin.by (fun tt_ kk_ => XS.iloadN X0.here hx rfl (hb hby d_method_2_18) rfl kk_) ?_
      show Fin _ _ _ _ _ _ _ (s₁.setTop (mkF m 19 #[.val (.int z)] [(.int z)]))
      exact Fin.ret (v := some (.int (nar .char z))) X0 (fun h => by rw [Bd.returns] at h; cases h) Bd.notSynchronized (by rw [e0]; exact ⟨(by unfold own_low; rw [if_neg h1, if_pos h2]), N0, rfl⟩) (by decide) (by decide) (fun fs hr => retN X0 hx (t := .char) Bd.returns (by simp) (hb hby d_method_2_19) hr)
    · refine Fin.by (fun tt_ kk_ => XS.icmpNo X0.here hx rfl (hb hby d_method_2_9) rfl (flt h2).2.2.1 kk_) ?_
      refine Fin.by (fun tt_ kk_ => XS.iloadN X0.here hx rfl (hb hby d_method_2_12) rfl (XS.bipush X0.here hx rfl (hb hby d_method_2_13) (XS.iadd X0.here hx rfl (hb hby d_method_2_15) rfl (XS.i2c X0.here hx rfl (hb hby d_method_2_16) rfl kk_)))) ?_
      show Fin _ _ _ _ _ _ _ (s₁.setTop (mkF m 17 #[.val (.int z)] [(.int ((z + 32).toUInt32.toUInt16.toUInt32.toInt32))]))
      exact Fin.ret (v := some (.int (nar .char ((z + (32 : Int32)).toUInt32.toUInt16.toUInt32.toInt32)))) X0 (fun h => by rw [Bd.returns] at h; cases h) Bd.notSynchronized (by rw [e0]; exact ⟨(by unfold own_low; rw [if_neg h1, if_neg h2]), N0, rfl⟩) (by decide) (by decide) (fun fs hr => retN X0 hx (t := .char) Bd.returns (by simp) (hb hby d_method_2_17) hr)
abbrev y_25 : MethodName := (⟨"java/lang/String", "toCharArray", "()[C"⟩ : MethodName)
abbrev y_26 : MethodName := (⟨"com/example/colonnade/colonnade/TokenValues", "asciiLowerCase", "(C)C"⟩ : MethodName)
theorem d_prog_106_method_2_0 : decode prog_106_method_2_code 0 = .ok (.aload_n 0, 1) := by decide +kernel
theorem pd_523 : parseMethodDescriptor "()[C" = some ⟨[], some (.array .char)⟩ := by decide +kernel
theorem d_prog_106_method_2_1 : decode prog_106_method_2_code 1 = .ok (.invokevirtual 7, 3) := by decide +kernel
theorem d_prog_106_method_2_4 : decode prog_106_method_2_code 4 = .ok (.astore_n 1, 1) := by decide +kernel
theorem d_prog_106_method_2_5 : decode prog_106_method_2_code 5 = .ok (.iconst 0, 1) := by decide +kernel
theorem d_prog_106_method_2_6 : decode prog_106_method_2_code 6 = .ok (.istore_n 2, 1) := by decide +kernel
theorem d_prog_106_method_2_7 : decode prog_106_method_2_code 7 = .ok (.iload_n 2, 1) := by decide +kernel
theorem d_prog_106_method_2_8 : decode prog_106_method_2_code 8 = .ok (.aload_n 1, 1) := by decide +kernel
theorem d_prog_106_method_2_9 : decode prog_106_method_2_code 9 = .ok (.arraylength, 1) := by decide +kernel
theorem d_prog_106_method_2_10 : decode prog_106_method_2_code 10 = .ok (.if_icmp .ge 18, 3) := by decide +kernel
theorem d_prog_106_method_2_28 : decode prog_106_method_2_code 28 = .ok (.new 8, 3) := by decide +kernel
theorem d_prog_106_method_2_31 : decode prog_106_method_2_code 31 = .ok (.dup, 1) := by decide +kernel
theorem d_prog_106_method_2_32 : decode prog_106_method_2_code 32 = .ok (.aload_n 1, 1) := by decide +kernel
theorem d_prog_106_method_2_33 : decode prog_106_method_2_code 33 = .ok (.invokespecial 19, 3) := by decide +kernel
theorem d_prog_106_method_2_36 : decode prog_106_method_2_code 36 = .ok (.areturn, 1) := by decide +kernel
theorem d_prog_106_method_2_13 : decode prog_106_method_2_code 13 = .ok (.aload_n 1, 1) := by decide +kernel
theorem d_prog_106_method_2_14 : decode prog_106_method_2_code 14 = .ok (.iload_n 2, 1) := by decide +kernel
theorem d_prog_106_method_2_15 : decode prog_106_method_2_code 15 = .ok (.aload_n 1, 1) := by decide +kernel
theorem d_prog_106_method_2_16 : decode prog_106_method_2_code 16 = .ok (.iload_n 2, 1) := by decide +kernel
theorem d_prog_106_method_2_17 : decode prog_106_method_2_code 17 = .ok (.caload, 1) := by decide +kernel
theorem pd_542 : parseMethodDescriptor "(C)C" = some ⟨[.char], some .char⟩ := by decide +kernel
theorem d_prog_106_method_2_18 : decode prog_106_method_2_code 18 = .ok (.invokestatic 13, 3) := by decide +kernel
theorem d_prog_106_method_2_21 : decode prog_106_method_2_code 21 = .ok (.castore, 1) := by decide +kernel
theorem d_prog_106_method_2_22 : decode prog_106_method_2_code 22 = .ok (.iinc 2 1, 3) := by decide +kernel
theorem d_prog_106_method_2_25 : decode prog_106_method_2_code 25 = .ok (.goto (-18), 3) := by decide +kernel
def Q_als (Z : State) (x : Addr) (t : Addr) (kb : ClassId) (N2 : Int32) (vs : List Value) (cd : Int32) (cs : List Int32) (G1 : Int32) (G9 : Value) (h0 : Heap) (n0 : Nat) (vv_ : Option Value) (hh_ : Heap) (LL_ : List Loc) : Prop := ∃ (y : Addr), ∃ (ty : Addr), ∃ (ky : ClassId), ∃ (Ny : Int32), ∃ (vy : List Value), ∃ (cy : Int32), vv_ = some (.ref y) ∧ Fr n0 LL_ ∧ Keep h0 hh_ [] ∧ Exa Z hh_ y "java/lang/String" ∧ Fld Z hh_ y "java/lang/String" "value" "[B" (.ref ty) ∧ Fld Z hh_ y "java/lang/String" "coder" "B" (.int cy) ∧ Arv Z hh_ ty ky .byte Ny vy (.int 0) ∧ (StrChars.Road.CodA (cs.map own_g) cy Ny vy)
set_option maxRecDepth 65536 in
set_option maxHeartbeats 40000000 in
theorem rm_als (l : Launch) (Z : State) (a0 : Array Value) (hw : ∀ d ∈ tables_1, d.before a0 Z = true) (ws : List Jvm.Cond) (x : Addr) (t : Addr) (kb : ClassId) (N2 : Int32) (vs : List Value) (cd : Int32) (cs : List Int32) (G1 : Int32) (G9 : Value) (h0 : Heap) (n0 : Nat) (Z0 : n0 ≤ h0.size) (hc : StrChars.Road.CodA cs cd N2 vs) (hb3 : ∀ c ∈ cs, ¬ c < 0 ∧ ¬ (65535 : Int32) < c) (l5 : cs.length ≤ 5) (E1 : Exa Z h0 x "java/lang/String") (F0 : Fld Z h0 x "java/lang/String" "value" "[B" (.ref t)) (F1 : Fld Z h0 x "java/lang/String" "coder" "B" (.int cd)) (A0 : Arv Z h0 t kb .byte N2 vs (.int 0)) (S1 : Sta Z Z.heap "java/lang/String" "COMPACT_STRINGS" "Z" (.int G1)) (P1 : ¬ G1 = 0) (S6 : Sta Z Z.heap "java/lang/StringUTF16" "$assertionsDisabled" "Z" (.int (1 : Int32))) (S7 : Sta Z Z.heap "java/lang/StringUTF16" "HI_BYTE_SHIFT" "I" (.int (0 : Int32))) (S8 : Sta Z Z.heap "java/lang/StringUTF16" "LO_BYTE_SHIFT" "I" (.int (8 : Int32))) (S9 : Sta Z Z.heap "jdk/internal/util/Preconditions" "SIOOBE_FORMATTER" "Ljava/util/function/BiFunction;" G9) (r9 : G9.isRef = true) (OL : Old Z n0 h0) :
    MetFree l (⟨"com/example/colonnade/colonnade/TokenValues", "asciiLowerCase", "(Ljava/lang/String;)Ljava/lang/String;"⟩ : MethodName) (head1 (Jvm.Cond.code (⟨"com/example/colonnade/colonnade/TokenValues", "asciiLowerCase", "(Ljava/lang/String;)Ljava/lang/String;"⟩ : MethodName) prog_106_method_2_code 3 (some (.object "java/lang/String")) :: ws) ({ frames := 6, cells := 6, slots := 24, locals := 88 } : Room)) (fun aa_ U => aa_ = #[(.ref x)] ∧ Z.Warmed39 U.vm ∧ U.heap = h0 ∧ CHv Z consts_1 U.vm h0) (fun _ _ _ _ _ => True) (fun _ U o U' => ∃ vv_ LL_, o = .returned vv_ ∧ Q_als Z x t kb N2 vs cd cs G1 G9 h0 n0 vv_ U'.heap LL_ ∧ CHr Z consts_1 U.vm U.heap U'.vm U'.heap ∧ ReturnedEndW U o U' LL_ 6 24) := by
  refine MetFree.of_bodySF (plainFor_of_name pn_com_example_colonnade_colonnade_TokenValues) hisR ?_
  intro p e s m args below meth c s₁ Bd hml0 hP hK
  obtain ⟨rfl, hZ, hh, hC0⟩ := hP
  have hx := Bd.exec
  have hby := Bd.bytes
  have hml : c.maxLocals = 3 := hml0
  have hown : s.vm.findClass "com/example/colonnade/colonnade/TokenValues" = some m.cls := findClass_of_methodNamed Bd.named
  have hnm := (name_of_methodNamed Bd.named Bd.method).1
  have X0 : Stand p l e ({ frames := 6, cells := 6, slots := 24, locals := 88 } : Room) (s.setVm s.vm) m #[(.ref x)] below meth c s₁ [] 0 0 := Stand.of_body Bd
  have e0 : s₁.heap = h0 := by rw [← hh, Bd.state]; rfl
  have N0 := Fr.nil n0
  have ef : entryFrame m #[(.ref x)] 3 = mkF m 0 #[.val (.ref x), .unset, .unset] [] := by first | (simp [entryFrame, mkF, argsToLocals, Value.category]; done) | rfl
  have hS0 : s.Since s.vm h0.size := (State.WarmedH.refl s).since _
  have hk0 : h0.size ≤ h0.size := Nat.le_refl _
  have own_EW := own_EW0 hw
  have ch0 : CHr Z consts_1 s.vm h0 s.vm h0 := CHr.refl hC0
  refine FinH.start (Q := Q_als Z x t kb N2 vs cd cs G1 G9 h0 n0) ef ?_
  refine FinH.by (fun tt_ kk_ => XS.aloadN X0.here hx rfl (hb hby d_prog_106_method_2_0) rfl rfl kk_) ?_
  obtain ⟨cq101, kq101, qa101, qb101, qc101⟩ := isOf hZ e0 E1
  obtain ⟨v101, _, ⟨T101, L101, k101, n101⟩, -, X101, ⟨Lc101, hQ101, l101, y101, z101⟩, st101⟩ := X0.virtualBack hx (y := y_25) (z := y_25) hown (mvT hZ (w_ hw 32 rfl)) (mvT hZ (w_ hw 33 rfl)) (notFace_of_selects (args := #[]) (mvT hZ (w_ hw 35 rfl))) (mvT hZ (w_ hw 35 rfl)) (mvT hZ (w_ hw 34 rfl)) (by decide) (backOf (W := 0) (rm_tcg l Z a0 hw [] x t kb N2 (vs : List Value) cs cd G1 G9 h0 n0 Z0 hc hb3 l5 E1 F0 F1 A0 S1 P1 S6 S7 S8 S9 r9 OL) hZ (w_ hw 36 rfl) (w_ hw 8 rfl) (by decide) (by decide)) qa101 qc101 (g := (mkF m 1 #[.val (.ref x), .unset, .unset] [(.ref x)])) rfl (by rw [hml]; rfl) (Steps.refl _) (argsL := []) (rest := []) (lenOf pd_523 rfl) rfl (by show 2 * 0 + _ ≤ _; exact Nat.le_of_eq rfl) (hb hby d_prog_106_method_2_1) (fun _ _ => ⟨rfl, e0, (by decide : 0 + 1 ≤ _), (by decide : 0 + 5 ≤ _)⟩)
  dsimp only [Pt.U, Pt.locs, Pt.cells, Pt.slots] at X101 l101 y101 z101 st101 hQ101
  subst l101 y101 z101
  obtain ⟨d102, kd103, rfl, Nq101, p101_0, p101_1, p101_2⟩ := hQ101
  have N101_ := Fr.app N0 Nq101
  refine FinH.byS st101 ?_
  have ch104 : CHr Z consts_1 s.vm h0 s.vm T101.heap := ch0.trans (CHr.keep p101_0 all0 ch0.1)
  refine FinH.by (fun tt_ kk_ => XS.astoreN X101.here hx rfl (hb hby d_prog_106_method_2_4) rfl rfl (l' := #[.val (.ref x), .val (.ref d102), .unset]) rfl (XS.iconst X101.here hx rfl (hb hby d_prog_106_method_2_5) (XS.istoreN X101.here hx rfl (hb hby d_prog_106_method_2_6) rfl (l' := #[.val (.ref x), .val (.ref d102), .val (.int 0)]) rfl kk_))) ?_
  have J7 : ∀ fu : Nat, ∀ (T105 : State) (h106 : Heap) (lc107 : List Loc) (V112 : Vm) (k113 : Nat) (i : Nat) (j : Int32), Stand p l e ({ frames := 6, cells := 6, slots := 24, locals := 88 } : Room) (s.setVm V112) m #[(.ref x)] below meth c T105 lc107 1 5 → T105.heap = h106 → Fr n0 lc107 → Keep T101.heap h106 [d102] → s.Since V112 k113 → k113 ≤ h106.size → Z.Warmed39 (s.setVm V112).vm → (s.setVm V112).vm.findClass "com/example/colonnade/colonnade/TokenValues" = some m.cls → CHr Z consts_1 s.vm T101.heap V112 h106 → (fu = cs.length - i) → (j = Int32.ofNat i) → (i ≤ cs.length) → (Arv Z h106 d102 kd103 .char (Int32.ofNat cs.length) (own_mix cs i) (.int (0 : Int32))) → FinH p e below Z consts_1 s (Q_als Z x t kb N2 vs cd cs G1 G9 h0 n0) 6 24 (T105.setTop (mkF m 7 #[.val (.ref x), .val (.ref d102), .val (.int j)] [])) := by
    intro fu
    induction fu using Nat.strongRecOn with
    | ind fu ih =>
      intro T105 h106 lc107 V112 k113 i j X108 e109 N110 K111 hS114 hk115 hZ116 hown117 hC118 hf hj hil jA
      have ch119 : CHr Z consts_1 s.vm h0 V112 h106 := ch104.trans hC118
      refine FinH.by (fun tt_ kk_ => XS.iloadN X108.here hx rfl (hb hby d_prog_106_method_2_7) rfl (XS.aloadN X108.here hx rfl (hb hby d_prog_106_method_2_8) rfl rfl kk_)) ?_
      obtain ⟨cl121, Ar121, q121, S121, N121, H121, G121⟩ := id jA
      refine FinH.by (fun tt_ kk_ => X108.arraylength hx (by rw [e109]; exact Ar121.1) (State.isArrayOf_alike hZ116.alike Ar121.2.1) (g := (mkF m 9 #[.val (.ref x), .val (.ref d102), .val (.int j)] [(.ref d102), (.int j)])) rfl rfl (hb hby d_prog_106_method_2_9) _ kk_) ?_
      rw [len_of S121 N121]
      show FinH _ _ _ _ _ _ _ _ _ (T105.setTop (mkF m 10 #[.val (.ref x), .val (.ref d102), .val (.int j)] [(.int (Int32.ofNat cs.length)), (.int j)]))
      by_cases hlt : j < (Int32.ofNat cs.length)
      · refine FinH.by (fun tt_ kk_ => XS.icmpNo X108.here hx rfl (hb hby d_prog_106_method_2_10) rfl (tlt hlt).2.1 kk_) ?_
        have hi := own_ltof hj hlt hil (by omega)
        refine FinH.by (fun tt_ kk_ => XS.aloadN X108.here hx rfl (hb hby d_prog_106_method_2_13) rfl rfl (XS.iloadN X108.here hx rfl (hb hby d_prog_106_method_2_14) rfl (XS.aloadN X108.here hx rfl (hb hby d_prog_106_method_2_15) rfl rfl (XS.iloadN X108.here hx rfl (hb hby d_prog_106_method_2_16) rfl kk_)))) ?_
        obtain ⟨cl159, Ar159, q159, S159, N159, H159, G159⟩ := id jA
        have hin159 : ¬ (j < 0 ∨ cl159.slots.size ≤ j.toNatClampNeg) := within hj (by rw [S159, own_cl (by omega)]; exact hi) (by rw [S159, own_cl (by omega)]; omega)
        refine FinH.by (fun tt_ kk_ => X108.caload hx (j := j) (v := (.int (cs.getD i 0))) (by rw [e109]; exact Ar159.1) (State.isArrayOf_alike hZ116.alike Ar159.2.1) Ar159.2.2 hin159 (Has.at H159 hin159 (by rw [clamp_of hj (by omega)]; exact own_mixget hi)) (g := (mkF m 17 #[.val (.ref x), .val (.ref d102), .val (.int j)] [(.int j), (.ref d102), (.int j), (.ref d102)])) rfl rfl (hb hby d_prog_106_method_2_17) _ kk_) ?_
        have z160 : n0 ≤ h106.size := Nat.le_trans Z0 (Nat.le_trans p101_0.1 K111.1)
        obtain ⟨v161, _, ⟨T161, L161, k161, n161⟩, -, X161, ⟨Lc161, hQ161, l161, y161, z161⟩, st161⟩ := Jvm.LawKit.callS X108 hx (y := y_26) hown117 (mvT hZ116 (w_ hw 72 rfl)) (mvT hZ116 (w_ hw 73 rfl)) (mvT hZ116 (w_ hw 30 rfl)) (mvT hZ116 (w_ hw 74 rfl)) (by decide) (backOf (W := 2) (rm_alc l Z a0 hw [] (cs.getD i 0) h106 n0 z160 ) hZ116 (w_ hw 74 rfl) (w_ hw 30 rfl) (by decide) (by decide)) (g := (mkF m 18 #[.val (.ref x), .val (.ref d102), .val (.int j)] [(.int (cs.getD i 0)), (.int j), (.ref d102)])) rfl (by rw [hml]; rfl) (argsL := [(.int (cs.getD i 0))]) (rest := [(.int j), (.ref d102)]) (lenOf pd_542 rfl) rfl (by show 2 * 0 + _ ≤ _; exact Nat.le_of_eq rfl) (hb hby d_prog_106_method_2_18) (fun _ _ => ⟨rfl, e109, (by decide : 1 + 0 ≤ _), (by decide : 5 + 0 ≤ _)⟩)
        dsimp only [Pt.U, Pt.locs, Pt.cells, Pt.slots] at X161 l161 y161 z161 st161 hQ161
        subst l161 y161 z161
        obtain ⟨rfl, Nq161, e161_⟩ := hQ161
        have N161_ := Fr.app N110 Nq161
        refine FinH.by (fun tt_ kk_ => st161 tt_ kk_) ?_
        have e161 := e161_
        obtain ⟨cl162, Ar162, q162, S162, N162, H162, G162⟩ := id jA
        have hin162 : ¬ (j < 0 ∨ cl162.slots.size ≤ j.toNatClampNeg) := within hj (by rw [S162, own_cl (by omega)]; exact hi) (by rw [S162, own_cl (by omega)]; omega)
        obtain ⟨T162, h162, X162, e162, W162, st162⟩ := stC X161 hx hZ116 e161 Ar162 (j := j) hin162 (g := (mkF m 21 #[.val (.ref x), .val (.ref d102), .val (.int j)] [(.int (nar .char (own_low (cs.getD i 0)))), (.int j), (.ref d102)])) rfl rfl (hb hby d_prog_106_method_2_21)
        have V162 : Arv Z h162 d102 kd103 .char (Int32.ofNat cs.length) ((own_mix cs i).set i (.int (nar .char (nar .char (own_low (cs.getD i 0)))))) (.int (0 : Int32)) := Arv.set Ar162 q162 S162 N162 H162 G162 (fits_nar_char _) W162 (i) (clamp_of hj (by omega)) (by rw [own_mixlen hil]; exact hi)
        have g163 : n0 ≤ d102 := Nat.le_trans Z0 p101_1
        refine FinH.by (fun tt_ kk_ => st162 tt_ kk_) ?_
        have N162_ := Fr.snoc X162 N161_ g163
        have sf165 : Safe Z consts_1 s.vm T101.heap d102 := (Safe.keep p101_0 all0 ch0.1 (Safe.new p101_1))
        have sf166 : Safe Z consts_1 V112 h106 d102 := (CHr.safe hC118 p101_2.lt sf165)
        have ch164 : CHr Z consts_1 s.vm h0 V112 h162 := ch119.trans (CHr.wr W162 sf166 ch119.1)
        have V167 : Arv Z h162 d102 kd103 .char (Int32.ofNat cs.length) (own_mix cs (i + 1)) (.int (0 : Int32)) := by have q := V162; rw [show Value.int (nar .char (nar .char (own_low (cs.getD i 0)))) = Value.int (own_g (cs.getD i 0)) from rfl, own_mixset hi] at q; exact q
        refine FinH.by (fun tt_ kk_ => XS.iinc X162.here hx rfl (hb hby d_prog_106_method_2_22) rfl (l' := #[.val (.ref x), .val (.ref d102), .val (.int (j + 1))]) rfl (XS.goto X162.here hx rfl (pc0 := 25) (pc' := 7) rfl (hb hby d_prog_106_method_2_25) (by decide) (by decide) kk_)) ?_
        show FinH _ _ _ _ _ _ _ _ _ (T162.setTop (mkF m 7 #[.val (.ref x), .val (.ref d102), .val (.int (j + 1))] []))
        have kp168 : Keep T101.heap h106 [d102] := (Keep.refl T101.heap [d102]).trans K111 (allS (Or.inl (List.mem_of_getElem? (i := 0) rfl)) all0)
        have kp169 : Keep T101.heap h162 [d102] := kp168.wr W162 (Or.inl (List.mem_of_getElem? (i := 0) rfl))
        exact ih (cs.length - (i + 1)) (by omega) T162 h162 _ V112 _ (i + 1) (j + (1 : Int32)) X162 e162 N162_ kp169 hS114 (Nat.le_trans hk115 (Keep.of_wr W162).1) hZ116 hown117 (hC118.trans (CHr.wr W162 sf166 ch119.1)) rfl (own_ext hj) hi V167
      · refine FinH.by (fun tt_ kk_ => XS.icmpYes X108.here hx rfl (pc0 := 10) (pc' := 28) rfl (hb hby d_prog_106_method_2_10) rfl (flt hlt).2.1 (by decide) (by decide) kk_) ?_
        obtain rfl := own_geof hj hlt hil (by omega)
        have V122 : Arv Z h106 d102 kd103 .char (Int32.ofNat cs.length) ((cs.map own_g).map Value.int) (.int (0 : Int32)) := by have q := jA; rw [own_mixN] at q; exact q
        by_cases hn0 : 0 < cs.length
        · have V123 : Arv Z h106 d102 kd103 .char (Int32.ofNat (cs.map own_g).length) ((cs.map own_g).map Value.int) (.int (0 : Int32)) := by rw [List.length_map]; exact V122
          obtain ⟨T124, h124, X124, e124, E124, A124, D124, -, st124⟩ := newO X108 hx hZ116 hown117 (w_ hw 50 rfl) (w_ hw 7 rfl) (w_ hw 8 rfl) e109 (g := (mkF m 28 #[.val (.ref x), .val (.ref d102), .val (.int j)] [])) rfl (hb hby d_prog_106_method_2_28) (by decide) (by decide)
          obtain ⟨a124, g124⟩ : ∃ z, z = h106.size := ⟨_, rfl⟩
          rw [← g124] at A124 D124 st124
          refine FinH.by (fun tt_ kk_ => st124 tt_ kk_) ?_
          have ch125 : CHr Z consts_1 s.vm h0 V112 h124 := ch119.trans (CHr.ext E124 ch119.1)
          refine FinH.by (fun tt_ kk_ => XS.dup X124.here hx rfl (hb hby d_prog_106_method_2_31) rfl rfl (XS.aloadN X124.here hx rfl (hb hby d_prog_106_method_2_32) rfl rfl kk_)) ?_
          have z127 : n0 ≤ h106.size := Nat.le_trans Z0 (Nat.le_trans p101_0.1 K111.1)
          have g126 : n0 ≤ a124 := Nat.le_trans z127 (Nat.le_of_eq g124.symm)
          have A128 : Arv Z h124 d102 kd103 .char (Int32.ofNat (cs.map own_g).length) ((cs.map own_g).map Value.int) (.int (0 : Int32)) := (V123.ext E124)
          have g129 : n0 ≤ d102 := Nat.le_trans Z0 p101_1
          have O130 : Old Z n0 h124 := (((OL.keep p101_0 all0).keep K111 (allS g129 all0)).ext E124)
          have z131 : n0 ≤ h124.size := Nat.le_trans Z0 (Nat.le_trans (Nat.le_trans p101_0.1 K111.1) E124.1)
          obtain ⟨v132, _, ⟨T132, L132, k132, n132⟩, -, X132, ⟨Lc132, hQ132, l132, y132, z132⟩, st132⟩ := X124.specialBack hx (y := y_24) rfl hown117 (mvT hZ116 (w_ hw 51 rfl)) (mvT hZ116 (w_ hw 11 rfl)) (mvT hZ116 (w_ hw 12 rfl)) (by decide) (backOf (W := 1) (rm_n1g l Z a0 hw [] a124 d102 kd103 (cs.map own_g) G1 h124 n0 z131 A124 (D124 (Or.inr (w_ hw 22 rfl)) (ty := (.array .byte)) (by decide) : Fld Z h124 a124 "java/lang/String" "value" "[B" .null) (D124 (Or.inr (w_ hw 23 rfl)) (ty := .byte) (by decide) : Fld Z h124 a124 "java/lang/String" "coder" "B" (.int (0 : Int32))) g126 A128 (by rw [List.length_map]; exact l5) (own_gb cs) (by rw [List.length_map]; exact hn0) S1 P1 S6 S7 S8 O130) hZ116 (w_ hw 12 rfl) (w_ hw 8 rfl) (by decide) (by decide)) (g := (mkF m 33 #[.val (.ref x), .val (.ref d102), .val (.int j)] [(.ref d102), (.ref a124), (.ref a124)])) rfl (by rw [hml]; rfl) (Steps.refl _) (a := a124) (argsL := [(.ref d102)]) (rest := [(.ref a124)]) (lenOf pd_389 rfl) rfl (by show 2 * 0 + _ ≤ _; exact Nat.le_of_eq rfl) (hb hby d_prog_106_method_2_33) (fun _ _ => ⟨rfl, e124, (by decide : 2 + 2 ≤ _), (by decide : 9 + 15 ≤ _)⟩)
          dsimp only [Pt.U, Pt.locs, Pt.cells, Pt.slots] at X132 l132 y132 z132 st132 hQ132
          subst l132 y132 z132
          obtain ⟨t133, k134, cd135, N136, vs137, rfl, Nq132, p132_0, p132_1, p132_2, p132_3, p132_4, p132_5, p132_6⟩ := hQ132
          have N132_ := Fr.app N110 Nq132
          refine FinH.byS st132 ?_
          have sf139 : Safe Z consts_1 V112 h124 a124 := (Safe.ext E124 ch119.1 (Safe.new (Nat.le_of_eq g124.symm)))
          have ch138 : CHr Z consts_1 s.vm h0 V112 T132.heap := ch125.trans (CHr.keep p132_0 (allS sf139 all0) ch125.1)
          have kp140 : Keep h0 T101.heap [] := (Keep.refl h0 []).trans p101_0 all0
          have kp141 : Keep h0 h106 [] := kp140.trans K111 (allS (Or.inr (Nat.le_trans (Nat.le_refl _) p101_1)) all0)
          have kp142 : Keep h0 h124 [] := kp141.ext E124
          have kp143 : Keep h0 T132.heap [] := kp142.trans p132_0 (allS (Or.inr (Nat.le_trans (Nat.le_trans p101_0.1 K111.1) (Nat.le_of_eq g124.symm))) all0)
          show FinH _ _ _ _ _ _ _ _ _ (T132.setTop (mkF m 36 #[.val (.ref x), .val (.ref d102), .val (.int j)] [(.ref a124)]))
          exact FinH.ret (v := some (.ref a124)) X132 hS114 ((Nat.le_trans hk115 (Nat.le_trans E124.1 p132_0.1))) (fun h => by rw [Bd.returns] at h; cases h) Bd.notSynchronized (⟨a124, t133, k134, N136, vs137, cd135, rfl, N132_, kp143, p132_2, p132_3, p132_4, p132_5, p132_6⟩) (by rw [hh]; exact ch138.trans (CHv.at X132 hZ116 own_EW ch138.1)) (by decide) (by decide) (fun fs hr => retA X132 hx Bd.returns rfl rfl (hb hby d_prog_106_method_2_36) hr)
        · obtain rfl : cs = [] := List.eq_nil_of_length_eq_zero (by omega)
          have V144 : Arv Z h106 d102 kd103 .char (0 : Int32) [] (.int (0 : Int32)) := V122
          obtain ⟨T145, h145, X145, e145, E145, A145, D145, -, st145⟩ := newO X108 hx hZ116 hown117 (w_ hw 50 rfl) (w_ hw 7 rfl) (w_ hw 8 rfl) e109 (g := (mkF m 28 #[.val (.ref x), .val (.ref d102), .val (.int j)] [])) rfl (hb hby d_prog_106_method_2_28) (by decide) (by decide)
          obtain ⟨a145, g145⟩ : ∃ z, z = h106.size := ⟨_, rfl⟩
          rw [← g145] at A145 D145 st145
          refine FinH.by (fun tt_ kk_ => st145 tt_ kk_) ?_
          have ch146 : CHr Z consts_1 s.vm h0 V112 h145 := ch119.trans (CHr.ext E145 ch119.1)
          refine FinH.by (fun tt_ kk_ => XS.dup X145.here hx rfl (hb hby d_prog_106_method_2_31) rfl rfl (XS.aloadN X145.here hx rfl (hb hby d_prog_106_method_2_32) rfl rfl kk_)) ?_
          have z148 : n0 ≤ h106.size := Nat.le_trans Z0 (Nat.le_trans p101_0.1 K111.1)
          have g147 : n0 ≤ a145 := Nat.le_trans z148 (Nat.le_of_eq g145.symm)
          have A149 : Arv Z h145 d102 kd103 .char (0 : Int32) [] (.int (0 : Int32)) := (V144.ext E145)
          have z150 : n0 ≤ h145.size := Nat.le_trans Z0 (Nat.le_trans (Nat.le_trans p101_0.1 K111.1) E145.1)
          obtain ⟨v151, _, ⟨T151, L151, k151, n151⟩, -, X151, hS151, hg151, ⟨Lc151, hQ151, l151, y151, z151, hC151⟩, st151⟩ := X145.specialBackS hx (y := y_24) rfl hown117 (mvT hZ116 (w_ hw 51 rfl)) (mvT hZ116 (w_ hw 11 rfl)) (mvT hZ116 (w_ hw 12 rfl)) (by decide) (backOfSH (W := 1) (rm_n1e l Z a0 hw [] a145 d102 kd103 h145 n0 z150 A145 (D145 (Or.inr (w_ hw 22 rfl)) (ty := (.array .byte)) (by decide) : Fld Z h145 a145 "java/lang/String" "value" "[B" .null) (D145 (Or.inr (w_ hw 23 rfl)) (ty := .byte) (by decide) : Fld Z h145 a145 "java/lang/String" "coder" "B" (.int (0 : Int32))) g147 A149) hZ116 (w_ hw 12 rfl) (w_ hw 8 rfl) (by decide) (by decide) own_EW ch146.1) (g := (mkF m 33 #[.val (.ref x), .val (.ref d102), .val (.int j)] [(.ref d102), (.ref a145), (.ref a145)])) rfl (by rw [hml]; rfl) (Steps.refl _) (a := a145) (argsL := [(.ref d102)]) (rest := [(.ref a145)]) (lenOf pd_389 rfl) rfl (by show 2 * 0 + _ ≤ _; exact Nat.le_of_eq rfl) (hb hby d_prog_106_method_2_33) (fun _ _ => ⟨rfl, e145, (by decide : 2 + 4 ≤ _), (by decide : 9 + 8 ≤ _)⟩)
          dsimp only [Pt.U, Pt.locs, Pt.cells, Pt.slots] at X151 l151 y151 z151 st151 hQ151 hS151 hg151 hC151
          subst l151 y151 z151
          obtain ⟨t152, k153, rfl, Nq151, p151_0, p151_1, p151_2, p151_3, p151_4⟩ := hQ151
          have N151_ := Fr.app N110 Nq151
          refine FinH.byS st151 ?_
          obtain ⟨X151w, hS151w, hZ151, hown151⟩ := rebS hS114 (by rw [e145]; exact (Nat.le_trans hk115 E145.1)) X151 hS151 hg151 hZ116 hown117
          have ch154 : CHr Z consts_1 s.vm h0 T151.vm T151.heap := ch146.trans hC151
          have kp155 : Keep h0 T101.heap [] := (Keep.refl h0 []).trans p101_0 all0
          have kp156 : Keep h0 h106 [] := kp155.trans K111 (allS (Or.inr (Nat.le_trans (Nat.le_refl _) p101_1)) all0)
          have kp157 : Keep h0 h145 [] := kp156.ext E145
          have kp158 : Keep h0 T151.heap [] := kp157.trans p151_0 (allS (Or.inr (Nat.le_trans (Nat.le_trans p101_0.1 K111.1) (Nat.le_of_eq g145.symm))) all0)
          show FinH _ _ _ _ _ _ _ _ _ (T151.setTop (mkF m 36 #[.val (.ref x), .val (.ref d102), .val (.int j)] [(.ref a145)]))
          exact FinH.ret (v := some (.ref a145)) X151w hS151w ((Nat.le_refl _)) (fun h => by rw [Bd.returns] at h; cases h) Bd.notSynchronized (⟨a145, t152, k153, (0 : Int32), [], (0 : Int32), rfl, N151_, kp158, p151_1, p151_2, p151_3, p151_4, (Or.inl ⟨rfl, rfl, rfl, own_nil⟩)⟩) (by rw [hh]; exact ch154.trans (CHv.at X151w hZ151 own_EW ch154.1)) (by decide) (by decide) (fun fs hr => retA X151w hx Bd.returns rfl rfl (hb hby d_prog_106_method_2_36) hr)
  have V120 : Arv Z T101.heap d102 kd103 .char (Int32.ofNat cs.length) (own_mix cs 0) (.int (0 : Int32)) := by have q := p101_2; rw [own_mix0] at q; exact q
  show FinH _ _ _ _ _ _ _ _ _ (T101.setTop (mkF m 7 #[.val (.ref x), .val (.ref d102), .val (.int 0)] []))
  exact J7 (cs.length - 0) T101 T101.heap _ s.vm _ 0 (0 : Int32) X101 rfl N101_ (Keep.refl T101.heap [d102]) hS0 (Nat.le_trans hk0 p101_0.1) hZ hown (CHr.refl ch104.1) rfl rfl (Nat.zero_le _) V120
abbrev y_27 : MethodName := (⟨"com/example/colonnade/colonnade/TokenValuesAsciiLowerCasePinLaw", "make", "(ICCCCC)Ljava/lang/String;"⟩ : MethodName)
abbrev y_28 : MethodName := (⟨"com/example/colonnade/colonnade/TokenValues", "asciiLowerCase", "(Ljava/lang/String;)Ljava/lang/String;"⟩ : MethodName)
abbrev y_29 : MethodName := (⟨"java/lang/String", "length", "()I"⟩ : MethodName)
abbrev y_30 : MethodName := (⟨"java/lang/String", "charAt", "(I)C"⟩ : MethodName)
abbrev y_31 : MethodName := (⟨"com/example/colonnade/colonnade/TokenValuesAsciiLowerCasePinLaw", "lower", "(C)C"⟩ : MethodName)
theorem pd_547 : parseMethodDescriptor "(ICCCCC)Ljava/lang/String;" = some ⟨[.int, .char, .char, .char, .char, .char], some (.object "java/lang/String")⟩ := by decide +kernel
theorem pd_548 : parseMethodDescriptor "(Ljava/lang/String;)Ljava/lang/String;" = some ⟨[(.object "java/lang/String")], some (.object "java/lang/String")⟩ := by decide +kernel
theorem pd_549 : parseMethodDescriptor "()I" = some ⟨[], some .int⟩ := by decide +kernel
theorem pd_550 : parseMethodDescriptor "(I)C" = some ⟨[.int], some .char⟩ := by decide +kernel
def Q_law (Z : State) (p1 : Int32) (p2 : Int32) (p3 : Int32) (p4 : Int32) (p5 : Int32) (p6 : Int32) (G1 : Int32) (G9 : Value) (h0 : Heap) (n0 : Nat) (vv_ : Option Value) (hh_ : Heap) (LL_ : List Loc) : Prop := vv_ = some (.int (1 : Int32)) ∧ Fr n0 LL_
set_option maxRecDepth 65536 in
set_option maxHeartbeats 40000000 in
theorem rm_law (l : Launch) (Z : State) (a0 : Array Value) (hw : ∀ d ∈ tables_1, d.before a0 Z = true) (ws : List Jvm.Cond) (p1 : Int32) (p2 : Int32) (p3 : Int32) (p4 : Int32) (p5 : Int32) (p6 : Int32) (G1 : Int32) (G9 : Value) (h0 : Heap) (n0 : Nat) (Z0 : n0 ≤ h0.size) (S1 : Sta Z Z.heap "java/lang/String" "COMPACT_STRINGS" "Z" (.int G1)) (P1 : ¬ G1 = 0) (S6 : Sta Z Z.heap "java/lang/StringUTF16" "$assertionsDisabled" "Z" (.int (1 : Int32))) (S7 : Sta Z Z.heap "java/lang/StringUTF16" "HI_BYTE_SHIFT" "I" (.int (0 : Int32))) (S8 : Sta Z Z.heap "java/lang/StringUTF16" "LO_BYTE_SHIFT" "I" (.int (8 : Int32))) (S9 : Sta Z Z.heap "jdk/internal/util/Preconditions" "SIOOBE_FORMATTER" "Ljava/util/function/BiFunction;" G9) (r9 : G9.isRef = true) (OL : Old Z n0 h0) :
    MetFree l x (head1 (Jvm.Cond.code x code maxLocals ret :: ws) room_1) (fun aa_ U => aa_ = #[(.int p1), (.int p2), (.int p3), (.int p4), (.int p5), (.int p6)] ∧ Z.Warmed39 U.vm ∧ U.heap = h0 ∧ CHv Z consts_1 U.vm h0) (fun _ _ _ _ _ => True) (fun _ U o U' => ∃ vv_ LL_, o = .returned vv_ ∧ Q_law Z p1 p2 p3 p4 p5 p6 G1 G9 h0 n0 vv_ U'.heap LL_ ∧ CHr Z consts_1 U.vm U.heap U'.vm U'.heap ∧ ReturnedEndW U o U' LL_ 32 1216) := by
  refine MetFree.of_bodySF (plainFor_of_name pn_com_example_colonnade_colonnade_TokenValuesAsciiLowerCasePinLaw) hisR ?_
  intro p e s m args below meth c s₁ Bd hml0 hP hK
  obtain ⟨rfl, hZ, hh, hC0⟩ := hP
  have hx := Bd.exec
  have hby := Bd.bytes
  have hml : c.maxLocals = 15 := hml0
  have hown : s.vm.findClass "com/example/colonnade/colonnade/TokenValuesAsciiLowerCasePinLaw" = some m.cls := findClass_of_methodNamed Bd.named
  have hnm := (name_of_methodNamed Bd.named Bd.method).1
  have X0 : Stand p l e room_1 (s.setVm s.vm) m #[(.int p1), (.int p2), (.int p3), (.int p4), (.int p5), (.int p6)] below meth c s₁ [] 0 0 := Stand.of_body Bd
  have e0 : s₁.heap = h0 := by rw [← hh, Bd.state]; rfl
  have N0 := Fr.nil n0
  have ef : entryFrame m #[(.int p1), (.int p2), (.int p3), (.int p4), (.int p5), (.int p6)] maxLocals = mkF m 0 #[.val (.int p1), .val (.int p2), .val (.int p3), .val (.int p4), .val (.int p5), .val (.int p6), .unset, .unset, .unset, .unset, .unset, .unset, .unset, .unset, .unset] [] := by first | (simp [entryFrame, mkF, argsToLocals, Value.category, maxLocals]; done) | rfl
  have hS0 : s.Since s.vm h0.size := (State.WarmedH.refl s).since _
  have hk0 : h0.size ≤ h0.size := Nat.le_refl _
  have own_EW := own_EW0 hw
  have ch0 : CHr Z consts_1 s.vm h0 s.vm h0 := CHr.refl hC0
  refine FinH.start (Q := Q_law Z p1 p2 p3 p4 p5 p6 G1 G9 h0 n0) ef ?_
  refine FinH.by (fun tt_ kk_ => XS.iloadN X0.here hx rfl (hb hby at_0) rfl kk_) ?_
  refine FinH.by (fun tt_ kk_ => X0.ldcInt hx hown (mvT hZ (w_ hw 0 rfl)) (g := (mkF m 1 #[.val (.int p1), .val (.int p2), .val (.int p3), .val (.int p4), .val (.int p5), .val (.int p6), .unset, .unset, .unset, .unset, .unset, .unset, .unset, .unset, .unset] [(.int p1)])) rfl (hb hby at_1) _ kk_) ?_
  refine FinH.by (fun tt_ kk_ => XS.iand X0.here hx rfl (hb hby at_3) rfl (XS.bipush X0.here hx rfl (hb hby at_4) (iremM X0 hx rfl (hb hby at_6) rfl (by decide) (XS.istore X0.here hx rfl (hb hby at_7) rfl (l' := #[.val (.int p1), .val (.int p2), .val (.int p3), .val (.int p4), .val (.int p5), .val (.int p6), .val (.int ((p1 &&& 2147483647) % 6)), .unset, .unset, .unset, .unset, .unset, .unset, .unset, .unset]) rfl (XS.iloadN X0.here hx rfl (hb hby at_9) rfl kk_))))) ?_
  refine FinH.by (fun tt_ kk_ => X0.ldcInt hx hown (mvT hZ (w_ hw 1 rfl)) (g := (mkF m 10 #[.val (.int p1), .val (.int p2), .val (.int p3), .val (.int p4), .val (.int p5), .val (.int p6), .val (.int ((p1 &&& 2147483647) % 6)), .unset, .unset, .unset, .unset, .unset, .unset, .unset, .unset] [(.int p2)])) rfl (hb hby at_10) _ kk_) ?_
  refine FinH.by (fun tt_ kk_ => XS.iand X0.here hx rfl (hb hby at_12) rfl (XS.i2c X0.here hx rfl (hb hby at_13) rfl (XS.istore X0.here hx rfl (hb hby at_14) rfl (l' := #[.val (.int p1), .val (.int p2), .val (.int p3), .val (.int p4), .val (.int p5), .val (.int p6), .val (.int ((p1 &&& 2147483647) % 6)), .val (.int ((p2 &&& 65535).toUInt32.toUInt16.toUInt32.toInt32)), .unset, .unset, .unset, .unset, .unset, .unset, .unset]) rfl (XS.iloadN X0.here hx rfl (hb hby at_16) rfl kk_)))) ?_
  refine FinH.by (fun tt_ kk_ => X0.ldcInt hx hown (mvT hZ (w_ hw 1 rfl)) (g := (mkF m 17 #[.val (.int p1), .val (.int p2), .val (.int p3), .val (.int p4), .val (.int p5), .val (.int p6), .val (.int ((p1 &&& 2147483647) % 6)), .val (.int ((p2 &&& 65535).toUInt32.toUInt16.toUInt32.toInt32)), .unset, .unset, .unset, .unset, .unset, .unset, .unset] [(.int p3)])) rfl (hb hby at_17) _ kk_) ?_
  refine FinH.by (fun tt_ kk_ => XS.iand X0.here hx rfl (hb hby at_19) rfl (XS.i2c X0.here hx rfl (hb hby at_20) rfl (XS.istore X0.here hx rfl (hb hby at_21) rfl (l' := #[.val (.int p1), .val (.int p2), .val (.int p3), .val (.int p4), .val (.int p5), .val (.int p6), .val (.int ((p1 &&& 2147483647) % 6)), .val (.int ((p2 &&& 65535).toUInt32.toUInt16.toUInt32.toInt32)), .val (.int ((p3 &&& 65535).toUInt32.toUInt16.toUInt32.toInt32)), .unset, .unset, .unset, .unset, .unset, .unset]) rfl (XS.iloadN X0.here hx rfl (hb hby at_23) rfl kk_)))) ?_
  refine FinH.by (fun tt_ kk_ => X0.ldcInt hx hown (mvT hZ (w_ hw 1 rfl)) (g := (mkF m 24 #[.val (.int p1), .val (.int p2), .val (.int p3), .val (.int p4), .val (.int p5), .val (.int p6), .val (.int ((p1 &&& 2147483647) % 6)), .val (.int ((p2 &&& 65535).toUInt32.toUInt16.toUInt32.toInt32)), .val (.int ((p3 &&& 65535).toUInt32.toUInt16.toUInt32.toInt32)), .unset, .unset, .unset, .unset, .unset, .unset] [(.int p4)])) rfl (hb hby at_24) _ kk_) ?_
  refine FinH.by (fun tt_ kk_ => XS.iand X0.here hx rfl (hb hby at_26) rfl (XS.i2c X0.here hx rfl (hb hby at_27) rfl (XS.istore X0.here hx rfl (hb hby at_28) rfl (l' := #[.val (.int p1), .val (.int p2), .val (.int p3), .val (.int p4), .val (.int p5), .val (.int p6), .val (.int ((p1 &&& 2147483647) % 6)), .val (.int ((p2 &&& 65535).toUInt32.toUInt16.toUInt32.toInt32)), .val (.int ((p3 &&& 65535).toUInt32.toUInt16.toUInt32.toInt32)), .val (.int ((p4 &&& 65535).toUInt32.toUInt16.toUInt32.toInt32)), .unset, .unset, .unset, .unset, .unset]) rfl (XS.iload X0.here hx rfl (hb hby at_30) rfl kk_)))) ?_
  refine FinH.by (fun tt_ kk_ => X0.ldcInt hx hown (mvT hZ (w_ hw 1 rfl)) (g := (mkF m 32 #[.val (.int p1), .val (.int p2), .val (.int p3), .val (.int p4), .val (.int p5), .val (.int p6), .val (.int ((p1 &&& 2147483647) % 6)), .val (.int ((p2 &&& 65535).toUInt32.toUInt16.toUInt32.toInt32)), .val (.int ((p3 &&& 65535).toUInt32.toUInt16.toUInt32.toInt32)), .val (.int ((p4 &&& 65535).toUInt32.toUInt16.toUInt32.toInt32)), .unset, .unset, .unset, .unset, .unset] [(.int p5)])) rfl (hb hby at_32) _ kk_) ?_
  refine FinH.by (fun tt_ kk_ => XS.iand X0.here hx rfl (hb hby at_34) rfl (XS.i2c X0.here hx rfl (hb hby at_35) rfl (XS.istore X0.here hx rfl (hb hby at_36) rfl (l' := #[.val (.int p1), .val (.int p2), .val (.int p3), .val (.int p4), .val (.int p5), .val (.int p6), .val (.int ((p1 &&& 2147483647) % 6)), .val (.int ((p2 &&& 65535).toUInt32.toUInt16.toUInt32.toInt32)), .val (.int ((p3 &&& 65535).toUInt32.toUInt16.toUInt32.toInt32)), .val (.int ((p4 &&& 65535).toUInt32.toUInt16.toUInt32.toInt32)), .val (.int ((p5 &&& 65535).toUInt32.toUInt16.toUInt32.toInt32)), .unset, .unset, .unset, .unset]) rfl (XS.iload X0.here hx rfl (hb hby at_38) rfl kk_)))) ?_
  refine FinH.by (fun tt_ kk_ => X0.ldcInt hx hown (mvT hZ (w_ hw 1 rfl)) (g := (mkF m 40 #[.val (.int p1), .val (.int p2), .val (.int p3), .val (.int p4), .val (.int p5), .val (.int p6), .val (.int ((p1 &&& 2147483647) % 6)), .val (.int ((p2 &&& 65535).toUInt32.toUInt16.toUInt32.toInt32)), .val (.int ((p3 &&& 65535).toUInt32.toUInt16.toUInt32.toInt32)), .val (.int ((p4 &&& 65535).toUInt32.toUInt16.toUInt32.toInt32)), .val (.int ((p5 &&& 65535).toUInt32.toUInt16.toUInt32.toInt32)), .unset, .unset, .unset, .unset] [(.int p6)])) rfl (hb hby at_40) _ kk_) ?_
  refine FinH.by (fun tt_ kk_ => XS.iand X0.here hx rfl (hb hby at_42) rfl (XS.i2c X0.here hx rfl (hb hby at_43) rfl (XS.istore X0.here hx rfl (hb hby at_44) rfl (l' := #[.val (.int p1), .val (.int p2), .val (.int p3), .val (.int p4), .val (.int p5), .val (.int p6), .val (.int ((p1 &&& 2147483647) % 6)), .val (.int ((p2 &&& 65535).toUInt32.toUInt16.toUInt32.toInt32)), .val (.int ((p3 &&& 65535).toUInt32.toUInt16.toUInt32.toInt32)), .val (.int ((p4 &&& 65535).toUInt32.toUInt16.toUInt32.toInt32)), .val (.int ((p5 &&& 65535).toUInt32.toUInt16.toUInt32.toInt32)), .val (.int ((p6 &&& 65535).toUInt32.toUInt16.toUInt32.toInt32)), .unset, .unset, .unset]) rfl kk_))) ?_
  have J46 : ∀ (nn : Int32) (q0 : Int32) (q1 : Int32) (q2 : Int32) (q3 : Int32) (q4 : Int32), (nn = 0 ∨ nn = 1 ∨ nn = 2 ∨ nn = 3 ∨ nn = 4 ∨ nn = 5) → (nar .char q0 = q0) → (nar .char q1 = q1) → (nar .char q2 = q2) → (nar .char q3 = q3) → (nar .char q4 = q4) → FinH p e below Z consts_1 s (Q_law Z p1 p2 p3 p4 p5 p6 G1 G9 h0 n0) 32 1216 (s₁.setTop (mkF m 46 #[.val (.int p1), .val (.int p2), .val (.int p3), .val (.int p4), .val (.int p5), .val (.int p6), .val (.int nn), .val (.int q0), .val (.int q1), .val (.int q2), .val (.int q3), .val (.int q4), .unset, .unset, .unset] [])) := by
    intro nn q0 q1 q2 q3 q4 hn hq0 hq1 hq2 hq3 hq4
    refine FinH.by (fun tt_ kk_ => XS.iload X0.here hx rfl (hb hby at_46) rfl (XS.iload X0.here hx rfl (hb hby at_48) rfl (XS.iload X0.here hx rfl (hb hby at_50) rfl (XS.iload X0.here hx rfl (hb hby at_52) rfl (XS.iload X0.here hx rfl (hb hby at_54) rfl (XS.iload X0.here hx rfl (hb hby at_56) rfl kk_)))))) ?_
    obtain ⟨v101, _, ⟨T101, L101, k101, n101⟩, -, X101, hS101, hg101, ⟨Lc101, hQ101, l101, y101, z101, hC101⟩, st101⟩ := callSS X0 hx (y := y_27) hown (mvT hZ (w_ hw 2 rfl)) (mvT hZ (w_ hw 3 rfl)) (mvT hZ (w_ hw 4 rfl)) (mvT hZ (w_ hw 5 rfl)) (by decide) (backOfSH (W := 0) (rm_mak l Z a0 hw [] nn q0 q1 q2 q3 q4 G1 h0 n0 Z0 S1 P1 S6 S7 S8 OL) hZ (w_ hw 5 rfl) (w_ hw 4 rfl) (by decide) (by decide) own_EW ch0.1) (g := (mkF m 58 #[.val (.int p1), .val (.int p2), .val (.int p3), .val (.int p4), .val (.int p5), .val (.int p6), .val (.int nn), .val (.int q0), .val (.int q1), .val (.int q2), .val (.int q3), .val (.int q4), .unset, .unset, .unset] [(.int q4), (.int q3), (.int q2), (.int q1), (.int q0), (.int nn)])) rfl (by rw [hml]; rfl) (argsL := [(.int nn), (.int q0), (.int q1), (.int q2), (.int q3), (.int q4)]) (rest := []) (lenOf pd_547 rfl) rfl (by show 2 * 0 + _ ≤ _; exact Nat.le_of_eq rfl) (hb hby at_58) (fun _ _ => ⟨rfl, e0, (by decide : 0 + 6 ≤ _), (by decide : 0 + 24 ≤ _)⟩)
    dsimp only [Pt.U, Pt.locs, Pt.cells, Pt.slots] at X101 l101 y101 z101 st101 hQ101 hS101 hg101 hC101
    subst l101 y101 z101
    obtain ⟨y102, ty103, ky104, Ny105, vy106, cy107, rfl, Nq101, p101_0, p101_1, p101_2, p101_3, p101_4, p101_5⟩ := hQ101
    have N101_ := Fr.app N0 Nq101
    refine FinH.byS st101 ?_
    obtain ⟨X101w, hS101w, hZ101, hown101⟩ := rebS hS0 (by rw [e0]; exact hk0) X101 hS101 hg101 hZ hown
    have ch108 : CHr Z consts_1 s.vm h0 T101.vm T101.heap := ch0.trans hC101
    refine FinH.by (fun tt_ kk_ => XS.astore X101w.here hx rfl (hb hby at_61) rfl rfl (l' := #[.val (.int p1), .val (.int p2), .val (.int p3), .val (.int p4), .val (.int p5), .val (.int p6), .val (.int nn), .val (.int q0), .val (.int q1), .val (.int q2), .val (.int q3), .val (.int q4), .val (.ref y102), .unset, .unset]) rfl (XS.aload X101w.here hx rfl (hb hby at_63) rfl rfl kk_)) ?_
    have O109 : Old Z n0 T101.heap := (OL.keep p101_0 all0)
    have z110 : n0 ≤ T101.heap.size := Nat.le_trans Z0 p101_0.1
    obtain ⟨v111, _, ⟨T111, L111, k111, n111⟩, -, X111, hS111, hg111, ⟨Lc111, hQ111, l111, y111, z111, hC111⟩, st111⟩ := callSS X101w hx (y := y_28) hown101 (mvT hZ101 (w_ hw 28 rfl)) (mvT hZ101 (w_ hw 29 rfl)) (mvT hZ101 (w_ hw 30 rfl)) (mvT hZ101 (w_ hw 31 rfl)) (by decide) (backOfSH (W := 0) (rm_als l Z a0 hw [] y102 ty103 ky104 Ny105 (vy106 : List Value) cy107 (own_mk nn (nar .char q0) (nar .char q1) (nar .char q2) (nar .char q3) (nar .char q4)) G1 G9 T101.heap n0 z110 p101_5 (own_mkb _ _ _ _ _ _) (own_mkl _ _ _ _ _ _) p101_1 p101_2 p101_3 p101_4 S1 P1 S6 S7 S8 S9 r9 O109) hZ101 (w_ hw 31 rfl) (w_ hw 30 rfl) (by decide) (by decide) own_EW ch108.1) (g := (mkF m 65 #[.val (.int p1), .val (.int p2), .val (.int p3), .val (.int p4), .val (.int p5), .val (.int p6), .val (.int nn), .val (.int q0), .val (.int q1), .val (.int q2), .val (.int q3), .val (.int q4), .val (.ref y102), .unset, .unset] [(.ref y102)])) rfl (by rw [hml]; rfl) (argsL := [(.ref y102)]) (rest := []) (lenOf pd_548 rfl) rfl (by show 2 * 0 + _ ≤ _; exact Nat.le_of_eq rfl) (hb hby at_65) (fun _ _ => ⟨rfl, rfl, (by decide : 6 + 6 ≤ _), (by decide : 24 + 24 ≤ _)⟩)
    dsimp only [Pt.U, Pt.locs, Pt.cells, Pt.slots] at X111 l111 y111 z111 st111 hQ111 hS111 hg111 hC111
    subst l111 y111 z111
    obtain ⟨y112, ty113, ky114, Ny115, vy116, cy117, rfl, Nq111, p111_0, p111_1, p111_2, p111_3, p111_4, p111_5⟩ := hQ111
    have N111_ := Fr.app N101_ Nq111
    refine FinH.byS st111 ?_
    obtain ⟨X111w, hS111w, hZ111, hown111⟩ := rebS hS101w ((Nat.le_refl _)) X111 hS111 hg111 hZ101 hown101
    have ch118 : CHr Z consts_1 s.vm h0 T111.vm T111.heap := ch108.trans hC111
    refine FinH.by (fun tt_ kk_ => XS.astore X111w.here hx rfl (hb hby at_68) rfl rfl (l' := #[.val (.int p1), .val (.int p2), .val (.int p3), .val (.int p4), .val (.int p5), .val (.int p6), .val (.int nn), .val (.int q0), .val (.int q1), .val (.int q2), .val (.int q3), .val (.int q4), .val (.ref y102), .val (.ref y112), .unset]) rfl (XS.aload X111w.here hx rfl (hb hby at_70) rfl rfl kk_)) ?_
    rcases hn with rfl | rfl | rfl | rfl | rfl | rfl
    · have hcd : StrChars.Road.CodA ([] : List Int32) cy117 Ny115 vy116 := by have q := p111_5; rw [own_mk0] at q; exact q
      have O119 : Old Z n0 T111.heap := (O109.keep p111_0 all0)
      have z120 : n0 ≤ T111.heap.size := Nat.le_trans z110 p111_0.1
      obtain ⟨cq121, kq121, qa121, qb121, qc121⟩ := isOf hZ111 rfl p111_1
      obtain ⟨v121, _, ⟨T121, L121, k121, n121⟩, -, X121, ⟨Lc121, hQ121, l121, y121, z121⟩, st121⟩ := X111w.virtualBack hx (y := y_29) (z := y_29) hown111 (mvT hZ111 (w_ hw 52 rfl)) (mvT hZ111 (w_ hw 53 rfl)) (notFace_of_selects (args := #[]) (mvT hZ111 (w_ hw 55 rfl))) (mvT hZ111 (w_ hw 55 rfl)) (mvT hZ111 (w_ hw 54 rfl)) (by decide) (backOf (W := 0) (rm_sle l Z a0 hw [] y112 ty113 ky114 Ny115 (vy116 : List Value) ([] : List Int32) cy117 G1 T111.heap n0 z120 hcd (Nat.le_of_ble_eq_true rfl) p111_1 p111_2 p111_3 p111_4 S1 P1 O119) hZ111 (w_ hw 56 rfl) (w_ hw 8 rfl) (by decide) (by decide)) qa121 qc121 (g := (mkF m 72 #[.val (.int p1), .val (.int p2), .val (.int p3), .val (.int p4), .val (.int p5), .val (.int p6), .val (.int 0), .val (.int q0), .val (.int q1), .val (.int q2), .val (.int q3), .val (.int q4), .val (.ref y102), .val (.ref y112), .unset] [(.ref y112)])) rfl (by rw [hml]; rfl) (Steps.refl _) (argsL := []) (rest := []) (lenOf pd_549 rfl) rfl (by show 2 * 0 + _ ≤ _; exact Nat.le_of_eq rfl) (hb hby at_72) (fun _ _ => ⟨rfl, rfl, (by decide : 12 + 0 ≤ _), (by decide : 48 + 0 ≤ _)⟩)
      dsimp only [Pt.U, Pt.locs, Pt.cells, Pt.slots] at X121 l121 y121 z121 st121 hQ121
      subst l121 y121 z121
      obtain ⟨rfl, Nq121, e121_⟩ := hQ121
      have N121_ := Fr.app N111_ Nq121
      refine FinH.byS st121 ?_
      have e121 := e121_
      refine FinH.by (fun tt_ kk_ => XS.iload X121.here hx rfl (hb hby at_75) rfl kk_) ?_
      show FinH _ _ _ _ _ _ _ _ _ (T121.setTop (mkF m 77 #[.val (.int p1), .val (.int p2), .val (.int p3), .val (.int p4), .val (.int p5), .val (.int p6), .val (.int 0), .val (.int q0), .val (.int q1), .val (.int q2), .val (.int q3), .val (.int q4), .val (.ref y102), .val (.ref y112), .unset] [(.int 0), (.int (Int32.ofNat ([] : List Int32).length))]))
      refine FinH.by (fun tt_ kk_ => XS.icmpNo X121.here hx rfl (hb hby at_77) rfl (teq (rfl : (Int32.ofNat ([] : List Int32).length) = (0 : Int32))).2 kk_) ?_
      refine FinH.by (fun tt_ kk_ => XS.iconst X121.here hx rfl (hb hby at_80) (XS.goto X121.here hx rfl (pc0 := 81) (pc' := 85) rfl (hb hby at_81) (by decide) (by decide) (XS.istore X121.here hx rfl (hb hby at_85) rfl (l' := #[.val (.int p1), .val (.int p2), .val (.int p3), .val (.int p4), .val (.int p5), .val (.int p6), .val (.int 0), .val (.int q0), .val (.int q1), .val (.int q2), .val (.int q3), .val (.int q4), .val (.ref y102), .val (.ref y112), .val (.int 1)]) rfl (XS.iload X121.here hx rfl (hb hby at_87) rfl kk_)))) ?_
      show FinH _ _ _ _ _ _ _ _ _ (T121.setTop (mkF m 89 #[.val (.int p1), .val (.int p2), .val (.int p3), .val (.int p4), .val (.int p5), .val (.int p6), .val (.int 0), .val (.int q0), .val (.int q1), .val (.int q2), .val (.int q3), .val (.int q4), .val (.ref y102), .val (.ref y112), .val (.int 1)] [(.int 1)]))
      refine FinH.by (fun tt_ kk_ => XS.ifNo X121.here hx rfl (hb hby at_89) rfl ((if0 _ _).trans (feq (by decide : ¬ (1 : Int32) = (0 : Int32))).1) kk_) ?_
      refine FinH.by (fun tt_ kk_ => XS.iload X121.here hx rfl (hb hby at_92) rfl (XS.iconst X121.here hx rfl (hb hby at_94) kk_)) ?_
      show FinH _ _ _ _ _ _ _ _ _ (T121.setTop (mkF m 95 #[.val (.int p1), .val (.int p2), .val (.int p3), .val (.int p4), .val (.int p5), .val (.int p6), .val (.int 0), .val (.int q0), .val (.int q1), .val (.int q2), .val (.int q3), .val (.int q4), .val (.ref y102), .val (.ref y112), .val (.int 1)] [(.int 1), (.int 0)]))
      refine FinH.by (fun tt_ kk_ => XS.icmpYes X121.here hx rfl (pc0 := 95) (pc' := 112) rfl (hb hby at_95) rfl (tlt (by decide : (0 : Int32) < (1 : Int32))).1 (by decide) (by decide) kk_) ?_
      refine FinH.by (fun tt_ kk_ => XS.iconst X121.here hx rfl (hb hby at_112) (XS.goto X121.here hx rfl (pc0 := 113) (pc' := 117) rfl (hb hby at_113) (by decide) (by decide) (XS.istore X121.here hx rfl (hb hby at_117) rfl (l' := #[.val (.int p1), .val (.int p2), .val (.int p3), .val (.int p4), .val (.int p5), .val (.int p6), .val (.int 0), .val (.int q0), .val (.int q1), .val (.int q2), .val (.int q3), .val (.int q4), .val (.ref y102), .val (.ref y112), .val (.int 1)]) rfl (XS.iload X121.here hx rfl (hb hby at_119) rfl kk_)))) ?_
      show FinH _ _ _ _ _ _ _ _ _ (T121.setTop (mkF m 121 #[.val (.int p1), .val (.int p2), .val (.int p3), .val (.int p4), .val (.int p5), .val (.int p6), .val (.int 0), .val (.int q0), .val (.int q1), .val (.int q2), .val (.int q3), .val (.int q4), .val (.ref y102), .val (.ref y112), .val (.int 1)] [(.int 1)]))
      refine FinH.by (fun tt_ kk_ => XS.ifNo X121.here hx rfl (hb hby at_121) rfl ((if0 _ _).trans (feq (by decide : ¬ (1 : Int32) = (0 : Int32))).1) kk_) ?_
      refine FinH.by (fun tt_ kk_ => XS.iload X121.here hx rfl (hb hby at_124) rfl (XS.iconst X121.here hx rfl (hb hby at_126) kk_)) ?_
      show FinH _ _ _ _ _ _ _ _ _ (T121.setTop (mkF m 127 #[.val (.int p1), .val (.int p2), .val (.int p3), .val (.int p4), .val (.int p5), .val (.int p6), .val (.int 0), .val (.int q0), .val (.int q1), .val (.int q2), .val (.int q3), .val (.int q4), .val (.ref y102), .val (.ref y112), .val (.int 1)] [(.int 2), (.int 0)]))
      refine FinH.by (fun tt_ kk_ => XS.icmpYes X121.here hx rfl (pc0 := 127) (pc' := 144) rfl (hb hby at_127) rfl (tlt (by decide : (0 : Int32) < (2 : Int32))).1 (by decide) (by decide) kk_) ?_
      refine FinH.by (fun tt_ kk_ => XS.iconst X121.here hx rfl (hb hby at_144) (XS.goto X121.here hx rfl (pc0 := 145) (pc' := 149) rfl (hb hby at_145) (by decide) (by decide) (XS.istore X121.here hx rfl (hb hby at_149) rfl (l' := #[.val (.int p1), .val (.int p2), .val (.int p3), .val (.int p4), .val (.int p5), .val (.int p6), .val (.int 0), .val (.int q0), .val (.int q1), .val (.int q2), .val (.int q3), .val (.int q4), .val (.ref y102), .val (.ref y112), .val (.int 1)]) rfl (XS.iload X121.here hx rfl (hb hby at_151) rfl kk_)))) ?_
      show FinH _ _ _ _ _ _ _ _ _ (T121.setTop (mkF m 153 #[.val (.int p1), .val (.int p2), .val (.int p3), .val (.int p4), .val (.int p5), .val (.int p6), .val (.int 0), .val (.int q0), .val (.int q1), .val (.int q2), .val (.int q3), .val (.int q4), .val (.ref y102), .val (.ref y112), .val (.int 1)] [(.int 1)]))
      refine FinH.by (fun tt_ kk_ => XS.ifNo X121.here hx rfl (hb hby at_153) rfl ((if0 _ _).trans (feq (by decide : ¬ (1 : Int32) = (0 : Int32))).1) kk_) ?_
      refine FinH.by (fun tt_ kk_ => XS.iload X121.here hx rfl (hb hby at_156) rfl (XS.iconst X121.here hx rfl (hb hby at_158) kk_)) ?_
      show FinH _ _ _ _ _ _ _ _ _ (T121.setTop (mkF m 159 #[.val (.int p1), .val (.int p2), .val (.int p3), .val (.int p4), .val (.int p5), .val (.int p6), .val (.int 0), .val (.int q0), .val (.int q1), .val (.int q2), .val (.int q3), .val (.int q4), .val (.ref y102), .val (.ref y112), .val (.int 1)] [(.int 3), (.int 0)]))
      refine FinH.by (fun tt_ kk_ => XS.icmpYes X121.here hx rfl (pc0 := 159) (pc' := 176) rfl (hb hby at_159) rfl (tlt (by decide : (0 : Int32) < (3 : Int32))).1 (by decide) (by decide) kk_) ?_
      refine FinH.by (fun tt_ kk_ => XS.iconst X121.here hx rfl (hb hby at_176) (XS.goto X121.here hx rfl (pc0 := 177) (pc' := 181) rfl (hb hby at_177) (by decide) (by decide) (XS.istore X121.here hx rfl (hb hby at_181) rfl (l' := #[.val (.int p1), .val (.int p2), .val (.int p3), .val (.int p4), .val (.int p5), .val (.int p6), .val (.int 0), .val (.int q0), .val (.int q1), .val (.int q2), .val (.int q3), .val (.int q4), .val (.ref y102), .val (.ref y112), .val (.int 1)]) rfl (XS.iload X121.here hx rfl (hb hby at_183) rfl kk_)))) ?_
      show FinH _ _ _ _ _ _ _ _ _ (T121.setTop (mkF m 185 #[.val (.int p1), .val (.int p2), .val (.int p3), .val (.int p4), .val (.int p5), .val (.int p6), .val (.int 0), .val (.int q0), .val (.int q1), .val (.int q2), .val (.int q3), .val (.int q4), .val (.ref y102), .val (.ref y112), .val (.int 1)] [(.int 1)]))
      refine FinH.by (fun tt_ kk_ => XS.ifNo X121.here hx rfl (hb hby at_185) rfl ((if0 _ _).trans (feq (by decide : ¬ (1 : Int32) = (0 : Int32))).1) kk_) ?_
      refine FinH.by (fun tt_ kk_ => XS.iload X121.here hx rfl (hb hby at_188) rfl (XS.iconst X121.here hx rfl (hb hby at_190) kk_)) ?_
      show FinH _ _ _ _ _ _ _ _ _ (T121.setTop (mkF m 191 #[.val (.int p1), .val (.int p2), .val (.int p3), .val (.int p4), .val (.int p5), .val (.int p6), .val (.int 0), .val (.int q0), .val (.int q1), .val (.int q2), .val (.int q3), .val (.int q4), .val (.ref y102), .val (.ref y112), .val (.int 1)] [(.int 4), (.int 0)]))
      refine FinH.by (fun tt_ kk_ => XS.icmpYes X121.here hx rfl (pc0 := 191) (pc' := 208) rfl (hb hby at_191) rfl (tlt (by decide : (0 : Int32) < (4 : Int32))).1 (by decide) (by decide) kk_) ?_
      refine FinH.by (fun tt_ kk_ => XS.iconst X121.here hx rfl (hb hby at_208) (XS.goto X121.here hx rfl (pc0 := 209) (pc' := 213) rfl (hb hby at_209) (by decide) (by decide) (XS.istore X121.here hx rfl (hb hby at_213) rfl (l' := #[.val (.int p1), .val (.int p2), .val (.int p3), .val (.int p4), .val (.int p5), .val (.int p6), .val (.int 0), .val (.int q0), .val (.int q1), .val (.int q2), .val (.int q3), .val (.int q4), .val (.ref y102), .val (.ref y112), .val (.int 1)]) rfl (XS.iload X121.here hx rfl (hb hby at_215) rfl kk_)))) ?_
      show FinH _ _ _ _ _ _ _ _ _ (T121.setTop (mkF m 217 #[.val (.int p1), .val (.int p2), .val (.int p3), .val (.int p4), .val (.int p5), .val (.int p6), .val (.int 0), .val (.int q0), .val (.int q1), .val (.int q2), .val (.int q3), .val (.int q4), .val (.ref y102), .val (.ref y112), .val (.int 1)] [(.int 1)]))
      refine FinH.by (fun tt_ kk_ => XS.ifNo X121.here hx rfl (hb hby at_217) rfl ((if0 _ _).trans (feq (by decide : ¬ (1 : Int32) = (0 : Int32))).1) kk_) ?_
      refine FinH.by (fun tt_ kk_ => XS.iload X121.here hx rfl (hb hby at_220) rfl (XS.iconst X121.here hx rfl (hb hby at_222) kk_)) ?_
      show FinH _ _ _ _ _ _ _ _ _ (T121.setTop (mkF m 223 #[.val (.int p1), .val (.int p2), .val (.int p3), .val (.int p4), .val (.int p5), .val (.int p6), .val (.int 0), .val (.int q0), .val (.int q1), .val (.int q2), .val (.int q3), .val (.int q4), .val (.ref y102), .val (.ref y112), .val (.int 1)] [(.int 5), (.int 0)]))
      refine FinH.by (fun tt_ kk_ => XS.icmpYes X121.here hx rfl (pc0 := 223) (pc' := 240) rfl (hb hby at_223) rfl (tlt (by decide : (0 : Int32) < (5 : Int32))).1 (by decide) (by decide) kk_) ?_
      refine FinH.by (fun tt_ kk_ => XS.iconst X121.here hx rfl (hb hby at_240) (XS.goto X121.here hx rfl (pc0 := 241) (pc' := 245) rfl (hb hby at_241) (by decide) (by decide) (XS.istore X121.here hx rfl (hb hby at_245) rfl (l' := #[.val (.int p1), .val (.int p2), .val (.int p3), .val (.int p4), .val (.int p5), .val (.int p6), .val (.int 0), .val (.int q0), .val (.int q1), .val (.int q2), .val (.int q3), .val (.int q4), .val (.ref y102), .val (.ref y112), .val (.int 1)]) rfl (XS.iload X121.here hx rfl (hb hby at_247) rfl kk_)))) ?_
      show FinH _ _ _ _ _ _ _ _ _ (T121.setTop (mkF m 249 #[.val (.int p1), .val (.int p2), .val (.int p3), .val (.int p4), .val (.int p5), .val (.int p6), .val (.int 0), .val (.int q0), .val (.int q1), .val (.int q2), .val (.int q3), .val (.int q4), .val (.ref y102), .val (.ref y112), .val (.int 1)] [(.int 1)]))
      exact FinH.ret (v := some (.int (nar .boolean (1 : Int32)))) X121 hS111w (by rw [e121]; exact (Nat.le_refl _)) (fun h => by rw [Bd.returns] at h; cases h) Bd.notSynchronized (by rw [e121]; exact ⟨rfl, N121_⟩) (by rw [hh, e121]; exact ch118.trans (CHv.at X121 hZ111 own_EW ch118.1)) (by decide) (by decide) (fun fs hr => retN X121 hx (t := .boolean) Bd.returns (by simp) (hb hby at_249) hr)
    · have hcd : StrChars.Road.CodA ([own_g (nar .char q0)] : List Int32) cy117 Ny115 vy116 := by have q := p111_5; rw [own_mk1] at q; exact q
      have O122 : Old Z n0 T111.heap := (O109.keep p111_0 all0)
      have z123 : n0 ≤ T111.heap.size := Nat.le_trans z110 p111_0.1
      obtain ⟨cq124, kq124, qa124, qb124, qc124⟩ := isOf hZ111 rfl p111_1
      obtain ⟨v124, _, ⟨T124, L124, k124, n124⟩, -, X124, ⟨Lc124, hQ124, l124, y124, z124⟩, st124⟩ := X111w.virtualBack hx (y := y_29) (z := y_29) hown111 (mvT hZ111 (w_ hw 52 rfl)) (mvT hZ111 (w_ hw 53 rfl)) (notFace_of_selects (args := #[]) (mvT hZ111 (w_ hw 55 rfl))) (mvT hZ111 (w_ hw 55 rfl)) (mvT hZ111 (w_ hw 54 rfl)) (by decide) (backOf (W := 0) (rm_sle l Z a0 hw [] y112 ty113 ky114 Ny115 (vy116 : List Value) ([own_g (nar .char q0)] : List Int32) cy117 G1 T111.heap n0 z123 hcd (Nat.le_of_ble_eq_true rfl) p111_1 p111_2 p111_3 p111_4 S1 P1 O122) hZ111 (w_ hw 56 rfl) (w_ hw 8 rfl) (by decide) (by decide)) qa124 qc124 (g := (mkF m 72 #[.val (.int p1), .val (.int p2), .val (.int p3), .val (.int p4), .val (.int p5), .val (.int p6), .val (.int 1), .val (.int q0), .val (.int q1), .val (.int q2), .val (.int q3), .val (.int q4), .val (.ref y102), .val (.ref y112), .unset] [(.ref y112)])) rfl (by rw [hml]; rfl) (Steps.refl _) (argsL := []) (rest := []) (lenOf pd_549 rfl) rfl (by show 2 * 0 + _ ≤ _; exact Nat.le_of_eq rfl) (hb hby at_72) (fun _ _ => ⟨rfl, rfl, (by decide : 12 + 0 ≤ _), (by decide : 48 + 0 ≤ _)⟩)
      dsimp only [Pt.U, Pt.locs, Pt.cells, Pt.slots] at X124 l124 y124 z124 st124 hQ124
      subst l124 y124 z124
      obtain ⟨rfl, Nq124, e124_⟩ := hQ124
      have N124_ := Fr.app N111_ Nq124
      refine FinH.byS st124 ?_
      have e124 := e124_
      refine FinH.by (fun tt_ kk_ => XS.iload X124.here hx rfl (hb hby at_75) rfl kk_) ?_
      show FinH _ _ _ _ _ _ _ _ _ (T124.setTop (mkF m 77 #[.val (.int p1), .val (.int p2), .val (.int p3), .val (.int p4), .val (.int p5), .val (.int p6), .val (.int 1), .val (.int q0), .val (.int q1), .val (.int q2), .val (.int q3), .val (.int q4), .val (.ref y102), .val (.ref y112), .unset] [(.int 1), (.int (Int32.ofNat ([own_g (nar .char q0)] : List Int32).length))]))
      refine FinH.by (fun tt_ kk_ => XS.icmpNo X124.here hx rfl (hb hby at_77) rfl (teq (rfl : (Int32.ofNat ([own_g (nar .char q0)] : List Int32).length) = (1 : Int32))).2 kk_) ?_
      refine FinH.by (fun tt_ kk_ => XS.iconst X124.here hx rfl (hb hby at_80) (XS.goto X124.here hx rfl (pc0 := 81) (pc' := 85) rfl (hb hby at_81) (by decide) (by decide) (XS.istore X124.here hx rfl (hb hby at_85) rfl (l' := #[.val (.int p1), .val (.int p2), .val (.int p3), .val (.int p4), .val (.int p5), .val (.int p6), .val (.int 1), .val (.int q0), .val (.int q1), .val (.int q2), .val (.int q3), .val (.int q4), .val (.ref y102), .val (.ref y112), .val (.int 1)]) rfl (XS.iload X124.here hx rfl (hb hby at_87) rfl kk_)))) ?_
      show FinH _ _ _ _ _ _ _ _ _ (T124.setTop (mkF m 89 #[.val (.int p1), .val (.int p2), .val (.int p3), .val (.int p4), .val (.int p5), .val (.int p6), .val (.int 1), .val (.int q0), .val (.int q1), .val (.int q2), .val (.int q3), .val (.int q4), .val (.ref y102), .val (.ref y112), .val (.int 1)] [(.int 1)]))
      refine FinH.by (fun tt_ kk_ => XS.ifNo X124.here hx rfl (hb hby at_89) rfl ((if0 _ _).trans (feq (by decide : ¬ (1 : Int32) = (0 : Int32))).1) kk_) ?_
      refine FinH.by (fun tt_ kk_ => XS.iload X124.here hx rfl (hb hby at_92) rfl (XS.iconst X124.here hx rfl (hb hby at_94) kk_)) ?_
      show FinH _ _ _ _ _ _ _ _ _ (T124.setTop (mkF m 95 #[.val (.int p1), .val (.int p2), .val (.int p3), .val (.int p4), .val (.int p5), .val (.int p6), .val (.int 1), .val (.int q0), .val (.int q1), .val (.int q2), .val (.int q3), .val (.int q4), .val (.ref y102), .val (.ref y112), .val (.int 1)] [(.int 1), (.int 1)]))
      refine FinH.by (fun tt_ kk_ => XS.icmpNo X124.here hx rfl (hb hby at_95) rfl (flt (by decide : ¬ (1 : Int32) < (1 : Int32))).1 kk_) ?_
      refine FinH.by (fun tt_ kk_ => XS.aload X124.here hx rfl (hb hby at_98) rfl rfl (XS.iconst X124.here hx rfl (hb hby at_100) kk_)) ?_
      obtain ⟨cq125, kq125, qa125, qb125, qc125⟩ := isOf hZ111 e124 p111_1
      obtain ⟨v125, _, ⟨T125, L125, k125, n125⟩, -, X125, ⟨Lc125, hQ125, l125, y125, z125⟩, st125⟩ := X124.virtualBack hx (y := y_30) (z := y_30) hown111 (mvT hZ111 (w_ hw 75 rfl)) (mvT hZ111 (w_ hw 76 rfl)) (notFace_of_selects (args := #[]) (mvT hZ111 (w_ hw 78 rfl))) (mvT hZ111 (w_ hw 78 rfl)) (mvT hZ111 (w_ hw 77 rfl)) (by decide) (backOf (W := 0) (rm_chA l Z a0 hw [] y112 ty113 ky114 Ny115 (vy116 : List Value) ([own_g (nar .char q0)] : List Int32) cy117 0 (0 : Int32) G1 G9 T111.heap n0 z123 hcd (own_cons (own_nb _) own_nil) (Nat.le_of_ble_eq_true rfl) (Nat.le_of_ble_eq_true rfl) rfl p111_1 p111_2 p111_3 p111_4 S1 P1 S6 S7 S8 S9 r9 O122) hZ111 (w_ hw 79 rfl) (w_ hw 8 rfl) (by decide) (by decide)) qa125 qc125 (g := (mkF m 101 #[.val (.int p1), .val (.int p2), .val (.int p3), .val (.int p4), .val (.int p5), .val (.int p6), .val (.int 1), .val (.int q0), .val (.int q1), .val (.int q2), .val (.int q3), .val (.int q4), .val (.ref y102), .val (.ref y112), .val (.int 1)] [(.int 0), (.ref y112)])) rfl (by rw [hml]; rfl) (Steps.refl _) (argsL := [(.int 0)]) (rest := []) (lenOf pd_550 rfl) rfl (by show 2 * 0 + _ ≤ _; exact Nat.le_of_eq rfl) (hb hby at_101) (fun _ _ => ⟨rfl, e124, (by decide : 12 + 0 ≤ _), (by decide : 48 + 0 ≤ _)⟩)
      dsimp only [Pt.U, Pt.locs, Pt.cells, Pt.slots] at X125 l125 y125 z125 st125 hQ125
      subst l125 y125 z125
      obtain ⟨rfl, Nq125, e125_⟩ := hQ125
      have N125_ := Fr.app N124_ Nq125
      refine FinH.byS st125 ?_
      have e125 := e125_
      refine FinH.by (fun tt_ kk_ => XS.iload X125.here hx rfl (hb hby at_104) rfl kk_) ?_
      obtain ⟨v126, _, ⟨T126, L126, k126, n126⟩, -, X126, ⟨Lc126, hQ126, l126, y126, z126⟩, st126⟩ := Jvm.LawKit.callS X125 hx (y := y_31) hown111 (mvT hZ111 (w_ hw 91 rfl)) (mvT hZ111 (w_ hw 92 rfl)) (mvT hZ111 (w_ hw 4 rfl)) (mvT hZ111 (w_ hw 93 rfl)) (by decide) (backOf (W := 1) (rm_low l Z a0 hw [] q0 T111.heap n0 z123 ) hZ111 (w_ hw 93 rfl) (w_ hw 4 rfl) (by decide) (by decide)) (g := (mkF m 106 #[.val (.int p1), .val (.int p2), .val (.int p3), .val (.int p4), .val (.int p5), .val (.int p6), .val (.int 1), .val (.int q0), .val (.int q1), .val (.int q2), .val (.int q3), .val (.int q4), .val (.ref y102), .val (.ref y112), .val (.int 1)] [(.int q0), (.int (([own_g (nar .char q0)] : List Int32).getD 0 0))])) rfl (by rw [hml]; rfl) (argsL := [(.int q0)]) (rest := [(.int (([own_g (nar .char q0)] : List Int32).getD 0 0))]) (lenOf pd_542 rfl) rfl (by show 2 * 0 + _ ≤ _; exact Nat.le_of_eq rfl) (hb hby at_106) (fun _ _ => ⟨rfl, e125, (by decide : 12 + 0 ≤ _), (by decide : 48 + 0 ≤ _)⟩)
      dsimp only [Pt.U, Pt.locs, Pt.cells, Pt.slots] at X126 l126 y126 z126 st126 hQ126
      subst l126 y126 z126
      obtain ⟨rfl, Nq126, e126_⟩ := hQ126
      have N126_ := Fr.app N125_ Nq126
      refine FinH.by (fun tt_ kk_ => st126 tt_ kk_) ?_
      have e126 := e126_
      show FinH _ _ _ _ _ _ _ _ _ (T126.setTop (mkF m 109 #[.val (.int p1), .val (.int p2), .val (.int p3), .val (.int p4), .val (.int p5), .val (.int p6), .val (.int 1), .val (.int q0), .val (.int q1), .val (.int q2), .val (.int q3), .val (.int q4), .val (.ref y102), .val (.ref y112), .val (.int 1)] [(.int (nar .char (own_low q0))), (.int (([own_g (nar .char q0)] : List Int32).getD 0 0))]))
      refine FinH.by (fun tt_ kk_ => XS.icmpNo X126.here hx rfl (hb hby at_109) rfl (teq (by show own_g (nar .char q0) = nar .char (own_low q0); unfold own_g; rw [hq0, own_nn] : (([own_g (nar .char q0)] : List Int32).getD 0 0) = (nar .char (own_low q0)))).2 kk_) ?_
      refine FinH.by (fun tt_ kk_ => XS.iconst X126.here hx rfl (hb hby at_112) (XS.goto X126.here hx rfl (pc0 := 113) (pc' := 117) rfl (hb hby at_113) (by decide) (by decide) (XS.istore X126.here hx rfl (hb hby at_117) rfl (l' := #[.val (.int p1), .val (.int p2), .val (.int p3), .val (.int p4), .val (.int p5), .val (.int p6), .val (.int 1), .val (.int q0), .val (.int q1), .val (.int q2), .val (.int q3), .val (.int q4), .val (.ref y102), .val (.ref y112), .val (.int 1)]) rfl (XS.iload X126.here hx rfl (hb hby at_119) rfl kk_)))) ?_
      show FinH _ _ _ _ _ _ _ _ _ (T126.setTop (mkF m 121 #[.val (.int p1), .val (.int p2), .val (.int p3), .val (.int p4), .val (.int p5), .val (.int p6), .val (.int 1), .val (.int q0), .val (.int q1), .val (.int q2), .val (.int q3), .val (.int q4), .val (.ref y102), .val (.ref y112), .val (.int 1)] [(.int 1)]))
      refine FinH.by (fun tt_ kk_ => XS.ifNo X126.here hx rfl (hb hby at_121) rfl ((if0 _ _).trans (feq (by decide : ¬ (1 : Int32) = (0 : Int32))).1) kk_) ?_
      refine FinH.by (fun tt_ kk_ => XS.iload X126.here hx rfl (hb hby at_124) rfl (XS.iconst X126.here hx rfl (hb hby at_126) kk_)) ?_
      show FinH _ _ _ _ _ _ _ _ _ (T126.setTop (mkF m 127 #[.val (.int p1), .val (.int p2), .val (.int p3), .val (.int p4), .val (.int p5), .val (.int p6), .val (.int 1), .val (.int q0), .val (.int q1), .val (.int q2), .val (.int q3), .val (.int q4), .val (.ref y102), .val (.ref y112), .val (.int 1)] [(.int 2), (.int 1)]))
      refine FinH.by (fun tt_ kk_ => XS.icmpYes X126.here hx rfl (pc0 := 127) (pc' := 144) rfl (hb hby at_127) rfl (tlt (by decide : (1 : Int32) < (2 : Int32))).1 (by decide) (by decide) kk_) ?_
      refine FinH.by (fun tt_ kk_ => XS.iconst X126.here hx rfl (hb hby at_144) (XS.goto X126.here hx rfl (pc0 := 145) (pc' := 149) rfl (hb hby at_145) (by decide) (by decide) (XS.istore X126.here hx rfl (hb hby at_149) rfl (l' := #[.val (.int p1), .val (.int p2), .val (.int p3), .val (.int p4), .val (.int p5), .val (.int p6), .val (.int 1), .val (.int q0), .val (.int q1), .val (.int q2), .val (.int q3), .val (.int q4), .val (.ref y102), .val (.ref y112), .val (.int 1)]) rfl (XS.iload X126.here hx rfl (hb hby at_151) rfl kk_)))) ?_
      show FinH _ _ _ _ _ _ _ _ _ (T126.setTop (mkF m 153 #[.val (.int p1), .val (.int p2), .val (.int p3), .val (.int p4), .val (.int p5), .val (.int p6), .val (.int 1), .val (.int q0), .val (.int q1), .val (.int q2), .val (.int q3), .val (.int q4), .val (.ref y102), .val (.ref y112), .val (.int 1)] [(.int 1)]))
      refine FinH.by (fun tt_ kk_ => XS.ifNo X126.here hx rfl (hb hby at_153) rfl ((if0 _ _).trans (feq (by decide : ¬ (1 : Int32) = (0 : Int32))).1) kk_) ?_
      refine FinH.by (fun tt_ kk_ => XS.iload X126.here hx rfl (hb hby at_156) rfl (XS.iconst X126.here hx rfl (hb hby at_158) kk_)) ?_
      show FinH _ _ _ _ _ _ _ _ _ (T126.setTop (mkF m 159 #[.val (.int p1), .val (.int p2), .val (.int p3), .val (.int p4), .val (.int p5), .val (.int p6), .val (.int 1), .val (.int q0), .val (.int q1), .val (.int q2), .val (.int q3), .val (.int q4), .val (.ref y102), .val (.ref y112), .val (.int 1)] [(.int 3), (.int 1)]))
      refine FinH.by (fun tt_ kk_ => XS.icmpYes X126.here hx rfl (pc0 := 159) (pc' := 176) rfl (hb hby at_159) rfl (tlt (by decide : (1 : Int32) < (3 : Int32))).1 (by decide) (by decide) kk_) ?_
      refine FinH.by (fun tt_ kk_ => XS.iconst X126.here hx rfl (hb hby at_176) (XS.goto X126.here hx rfl (pc0 := 177) (pc' := 181) rfl (hb hby at_177) (by decide) (by decide) (XS.istore X126.here hx rfl (hb hby at_181) rfl (l' := #[.val (.int p1), .val (.int p2), .val (.int p3), .val (.int p4), .val (.int p5), .val (.int p6), .val (.int 1), .val (.int q0), .val (.int q1), .val (.int q2), .val (.int q3), .val (.int q4), .val (.ref y102), .val (.ref y112), .val (.int 1)]) rfl (XS.iload X126.here hx rfl (hb hby at_183) rfl kk_)))) ?_
      show FinH _ _ _ _ _ _ _ _ _ (T126.setTop (mkF m 185 #[.val (.int p1), .val (.int p2), .val (.int p3), .val (.int p4), .val (.int p5), .val (.int p6), .val (.int 1), .val (.int q0), .val (.int q1), .val (.int q2), .val (.int q3), .val (.int q4), .val (.ref y102), .val (.ref y112), .val (.int 1)] [(.int 1)]))
      refine FinH.by (fun tt_ kk_ => XS.ifNo X126.here hx rfl (hb hby at_185) rfl ((if0 _ _).trans (feq (by decide : ¬ (1 : Int32) = (0 : Int32))).1) kk_) ?_
      refine FinH.by (fun tt_ kk_ => XS.iload X126.here hx rfl (hb hby at_188) rfl (XS.iconst X126.here hx rfl (hb hby at_190) kk_)) ?_
      show FinH _ _ _ _ _ _ _ _ _ (T126.setTop (mkF m 191 #[.val (.int p1), .val (.int p2), .val (.int p3), .val (.int p4), .val (.int p5), .val (.int p6), .val (.int 1), .val (.int q0), .val (.int q1), .val (.int q2), .val (.int q3), .val (.int q4), .val (.ref y102), .val (.ref y112), .val (.int 1)] [(.int 4), (.int 1)]))
      refine FinH.by (fun tt_ kk_ => XS.icmpYes X126.here hx rfl (pc0 := 191) (pc' := 208) rfl (hb hby at_191) rfl (tlt (by decide : (1 : Int32) < (4 : Int32))).1 (by decide) (by decide) kk_) ?_
      refine FinH.by (fun tt_ kk_ => XS.iconst X126.here hx rfl (hb hby at_208) (XS.goto X126.here hx rfl (pc0 := 209) (pc' := 213) rfl (hb hby at_209) (by decide) (by decide) (XS.istore X126.here hx rfl (hb hby at_213) rfl (l' := #[.val (.int p1), .val (.int p2), .val (.int p3), .val (.int p4), .val (.int p5), .val (.int p6), .val (.int 1), .val (.int q0), .val (.int q1), .val (.int q2), .val (.int q3), .val (.int q4), .val (.ref y102), .val (.ref y112), .val (.int 1)]) rfl (XS.iload X126.here hx rfl (hb hby at_215) rfl kk_)))) ?_
      show FinH _ _ _ _ _ _ _ _ _ (T126.setTop (mkF m 217 #[.val (.int p1), .val (.int p2), .val (.int p3), .val (.int p4), .val (.int p5), .val (.int p6), .val (.int 1), .val (.int q0), .val (.int q1), .val (.int q2), .val (.int q3), .val (.int q4), .val (.ref y102), .val (.ref y112), .val (.int 1)] [(.int 1)]))
      refine FinH.by (fun tt_ kk_ => XS.ifNo X126.here hx rfl (hb hby at_217) rfl ((if0 _ _).trans (feq (by decide : ¬ (1 : Int32) = (0 : Int32))).1) kk_) ?_
      refine FinH.by (fun tt_ kk_ => XS.iload X126.here hx rfl (hb hby at_220) rfl (XS.iconst X126.here hx rfl (hb hby at_222) kk_)) ?_
      show FinH _ _ _ _ _ _ _ _ _ (T126.setTop (mkF m 223 #[.val (.int p1), .val (.int p2), .val (.int p3), .val (.int p4), .val (.int p5), .val (.int p6), .val (.int 1), .val (.int q0), .val (.int q1), .val (.int q2), .val (.int q3), .val (.int q4), .val (.ref y102), .val (.ref y112), .val (.int 1)] [(.int 5), (.int 1)]))
      refine FinH.by (fun tt_ kk_ => XS.icmpYes X126.here hx rfl (pc0 := 223) (pc' := 240) rfl (hb hby at_223) rfl (tlt (by decide : (1 : Int32) < (5 : Int32))).1 (by decide) (by decide) kk_) ?_
      refine FinH.by (fun tt_ kk_ => XS.iconst X126.here hx rfl (hb hby at_240) (XS.goto X126.here hx rfl (pc0 := 241) (pc' := 245) rfl (hb hby at_241) (by decide) (by decide) (XS.istore X126.here hx rfl (hb hby at_245) rfl (l' := #[.val (.int p1), .val (.int p2), .val (.int p3), .val (.int p4), .val (.int p5), .val (.int p6), .val (.int 1), .val (.int q0), .val (.int q1), .val (.int q2), .val (.int q3), .val (.int q4), .val (.ref y102), .val (.ref y112), .val (.int 1)]) rfl (XS.iload X126.here hx rfl (hb hby at_247) rfl kk_)))) ?_
      show FinH _ _ _ _ _ _ _ _ _ (T126.setTop (mkF m 249 #[.val (.int p1), .val (.int p2), .val (.int p3), .val (.int p4), .val (.int p5), .val (.int p6), .val (.int 1), .val (.int q0), .val (.int q1), .val (.int q2), .val (.int q3), .val (.int q4), .val (.ref y102), .val (.ref y112), .val (.int 1)] [(.int 1)]))
      exact FinH.ret (v := some (.int (nar .boolean (1 : Int32)))) X126 hS111w (by rw [e126]; exact (Nat.le_refl _)) (fun h => by rw [Bd.returns] at h; cases h) Bd.notSynchronized (by rw [e126]; exact ⟨rfl, N126_⟩) (by rw [hh, e126]; exact ch118.trans (CHv.at X126 hZ111 own_EW ch118.1)) (by decide) (by decide) (fun fs hr => retN X126 hx (t := .boolean) Bd.returns (by simp) (hb hby at_249) hr)
    · have hcd : StrChars.Road.CodA ([own_g (nar .char q0), own_g (nar .char q1)] : List Int32) cy117 Ny115 vy116 := by have q := p111_5; rw [own_mk2] at q; exact q
      have O127 : Old Z n0 T111.heap := (O109.keep p111_0 all0)
      have z128 : n0 ≤ T111.heap.size := Nat.le_trans z110 p111_0.1
      obtain ⟨cq129, kq129, qa129, qb129, qc129⟩ := isOf hZ111 rfl p111_1
      obtain ⟨v129, _, ⟨T129, L129, k129, n129⟩, -, X129, ⟨Lc129, hQ129, l129, y129, z129⟩, st129⟩ := X111w.virtualBack hx (y := y_29) (z := y_29) hown111 (mvT hZ111 (w_ hw 52 rfl)) (mvT hZ111 (w_ hw 53 rfl)) (notFace_of_selects (args := #[]) (mvT hZ111 (w_ hw 55 rfl))) (mvT hZ111 (w_ hw 55 rfl)) (mvT hZ111 (w_ hw 54 rfl)) (by decide) (backOf (W := 0) (rm_sle l Z a0 hw [] y112 ty113 ky114 Ny115 (vy116 : List Value) ([own_g (nar .char q0), own_g (nar .char q1)] : List Int32) cy117 G1 T111.heap n0 z128 hcd (Nat.le_of_ble_eq_true rfl) p111_1 p111_2 p111_3 p111_4 S1 P1 O127) hZ111 (w_ hw 56 rfl) (w_ hw 8 rfl) (by decide) (by decide)) qa129 qc129 (g := (mkF m 72 #[.val (.int p1), .val (.int p2), .val (.int p3), .val (.int p4), .val (.int p5), .val (.int p6), .val (.int 2), .val (.int q0), .val (.int q1), .val (.int q2), .val (.int q3), .val (.int q4), .val (.ref y102), .val (.ref y112), .unset] [(.ref y112)])) rfl (by rw [hml]; rfl) (Steps.refl _) (argsL := []) (rest := []) (lenOf pd_549 rfl) rfl (by show 2 * 0 + _ ≤ _; exact Nat.le_of_eq rfl) (hb hby at_72) (fun _ _ => ⟨rfl, rfl, (by decide : 12 + 0 ≤ _), (by decide : 48 + 0 ≤ _)⟩)
      dsimp only [Pt.U, Pt.locs, Pt.cells, Pt.slots] at X129 l129 y129 z129 st129 hQ129
      subst l129 y129 z129
      obtain ⟨rfl, Nq129, e129_⟩ := hQ129
      have N129_ := Fr.app N111_ Nq129
      refine FinH.byS st129 ?_
      have e129 := e129_
      refine FinH.by (fun tt_ kk_ => XS.iload X129.here hx rfl (hb hby at_75) rfl kk_) ?_
      show FinH _ _ _ _ _ _ _ _ _ (T129.setTop (mkF m 77 #[.val (.int p1), .val (.int p2), .val (.int p3), .val (.int p4), .val (.int p5), .val (.int p6), .val (.int 2), .val (.int q0), .val (.int q1), .val (.int q2), .val (.int q3), .val (.int q4), .val (.ref y102), .val (.ref y112), .unset] [(.int 2), (.int (Int32.ofNat ([own_g (nar .char q0), own_g (nar .char q1)] : List Int32).length))]))
      refine FinH.by (fun tt_ kk_ => XS.icmpNo X129.here hx rfl (hb hby at_77) rfl (teq (rfl : (Int32.ofNat ([own_g (nar .char q0), own_g (nar .char q1)] : List Int32).length) = (2 : Int32))).2 kk_) ?_
      refine FinH.by (fun tt_ kk_ => XS.iconst X129.here hx rfl (hb hby at_80) (XS.goto X129.here hx rfl (pc0 := 81) (pc' := 85) rfl (hb hby at_81) (by decide) (by decide) (XS.istore X129.here hx rfl (hb hby at_85) rfl (l' := #[.val (.int p1), .val (.int p2), .val (.int p3), .val (.int p4), .val (.int p5), .val (.int p6), .val (.int 2), .val (.int q0), .val (.int q1), .val (.int q2), .val (.int q3), .val (.int q4), .val (.ref y102), .val (.ref y112), .val (.int 1)]) rfl (XS.iload X129.here hx rfl (hb hby at_87) rfl kk_)))) ?_
      show FinH _ _ _ _ _ _ _ _ _ (T129.setTop (mkF m 89 #[.val (.int p1), .val (.int p2), .val (.int p3), .val (.int p4), .val (.int p5), .val (.int p6), .val (.int 2), .val (.int q0), .val (.int q1), .val (.int q2), .val (.int q3), .val (.int q4), .val (.ref y102), .val (.ref y112), .val (.int 1)] [(.int 1)]))
      refine FinH.by (fun tt_ kk_ => XS.ifNo X129.here hx rfl (hb hby at_89) rfl ((if0 _ _).trans (feq (by decide : ¬ (1 : Int32) = (0 : Int32))).1) kk_) ?_
      refine FinH.by (fun tt_ kk_ => XS.iload X129.here hx rfl (hb hby at_92) rfl (XS.iconst X129.here hx rfl (hb hby at_94) kk_)) ?_
      show FinH _ _ _ _ _ _ _ _ _ (T129.setTop (mkF m 95 #[.val (.int p1), .val (.int p2), .val (.int p3), .val (.int p4), .val (.int p5), .val (.int p6), .val (.int 2), .val (.int q0), .val (.int q1), .val (.int q2), .val (.int q3), .val (.int q4), .val (.ref y102), .val (.ref y112), .val (.int 1)] [(.int 1), (.int 2)]))
      refine FinH.by (fun tt_ kk_ => XS.icmpNo X129.here hx rfl (hb hby at_95) rfl (flt (by decide : ¬ (2 : Int32) < (1 : Int32))).1 kk_) ?_
      refine FinH.by (fun tt_ kk_ => XS.aload X129.here hx rfl (hb hby at_98) rfl rfl (XS.iconst X129.here hx rfl (hb hby at_100) kk_)) ?_
      obtain ⟨cq130, kq130, qa130, qb130, qc130⟩ := isOf hZ111 e129 p111_1
      obtain ⟨v130, _, ⟨T130, L130, k130, n130⟩, -, X130, ⟨Lc130, hQ130, l130, y130, z130⟩, st130⟩ := X129.virtualBack hx (y := y_30) (z := y_30) hown111 (mvT hZ111 (w_ hw 75 rfl)) (mvT hZ111 (w_ hw 76 rfl)) (notFace_of_selects (args := #[]) (mvT hZ111 (w_ hw 78 rfl))) (mvT hZ111 (w_ hw 78 rfl)) (mvT hZ111 (w_ hw 77 rfl)) (by decide) (backOf (W := 0) (rm_chA l Z a0 hw [] y112 ty113 ky114 Ny115 (vy116 : List Value) ([own_g (nar .char q0), own_g (nar .char q1)] : List Int32) cy117 0 (0 : Int32) G1 G9 T111.heap n0 z128 hcd (own_cons (own_nb _) (own_cons (own_nb _) own_nil)) (Nat.le_of_ble_eq_true rfl) (Nat.le_of_ble_eq_true rfl) rfl p111_1 p111_2 p111_3 p111_4 S1 P1 S6 S7 S8 S9 r9 O127) hZ111 (w_ hw 79 rfl) (w_ hw 8 rfl) (by decide) (by decide)) qa130 qc130 (g := (mkF m 101 #[.val (.int p1), .val (.int p2), .val (.int p3), .val (.int p4), .val (.int p5), .val (.int p6), .val (.int 2), .val (.int q0), .val (.int q1), .val (.int q2), .val (.int q3), .val (.int q4), .val (.ref y102), .val (.ref y112), .val (.int 1)] [(.int 0), (.ref y112)])) rfl (by rw [hml]; rfl) (Steps.refl _) (argsL := [(.int 0)]) (rest := []) (lenOf pd_550 rfl) rfl (by show 2 * 0 + _ ≤ _; exact Nat.le_of_eq rfl) (hb hby at_101) (fun _ _ => ⟨rfl, e129, (by decide : 12 + 0 ≤ _), (by decide : 48 + 0 ≤ _)⟩)
      dsimp only [Pt.U, Pt.locs, Pt.cells, Pt.slots] at X130 l130 y130 z130 st130 hQ130
      subst l130 y130 z130
      obtain ⟨rfl, Nq130, e130_⟩ := hQ130
      have N130_ := Fr.app N129_ Nq130
      refine FinH.byS st130 ?_
      have e130 := e130_
      refine FinH.by (fun tt_ kk_ => XS.iload X130.here hx rfl (hb hby at_104) rfl kk_) ?_
      obtain ⟨v131, _, ⟨T131, L131, k131, n131⟩, -, X131, ⟨Lc131, hQ131, l131, y131, z131⟩, st131⟩ := Jvm.LawKit.callS X130 hx (y := y_31) hown111 (mvT hZ111 (w_ hw 91 rfl)) (mvT hZ111 (w_ hw 92 rfl)) (mvT hZ111 (w_ hw 4 rfl)) (mvT hZ111 (w_ hw 93 rfl)) (by decide) (backOf (W := 1) (rm_low l Z a0 hw [] q0 T111.heap n0 z128 ) hZ111 (w_ hw 93 rfl) (w_ hw 4 rfl) (by decide) (by decide)) (g := (mkF m 106 #[.val (.int p1), .val (.int p2), .val (.int p3), .val (.int p4), .val (.int p5), .val (.int p6), .val (.int 2), .val (.int q0), .val (.int q1), .val (.int q2), .val (.int q3), .val (.int q4), .val (.ref y102), .val (.ref y112), .val (.int 1)] [(.int q0), (.int (([own_g (nar .char q0), own_g (nar .char q1)] : List Int32).getD 0 0))])) rfl (by rw [hml]; rfl) (argsL := [(.int q0)]) (rest := [(.int (([own_g (nar .char q0), own_g (nar .char q1)] : List Int32).getD 0 0))]) (lenOf pd_542 rfl) rfl (by show 2 * 0 + _ ≤ _; exact Nat.le_of_eq rfl) (hb hby at_106) (fun _ _ => ⟨rfl, e130, (by decide : 12 + 0 ≤ _), (by decide : 48 + 0 ≤ _)⟩)
      dsimp only [Pt.U, Pt.locs, Pt.cells, Pt.slots] at X131 l131 y131 z131 st131 hQ131
      subst l131 y131 z131
      obtain ⟨rfl, Nq131, e131_⟩ := hQ131
      have N131_ := Fr.app N130_ Nq131
      refine FinH.by (fun tt_ kk_ => st131 tt_ kk_) ?_
      have e131 := e131_
      show FinH _ _ _ _ _ _ _ _ _ (T131.setTop (mkF m 109 #[.val (.int p1), .val (.int p2), .val (.int p3), .val (.int p4), .val (.int p5), .val (.int p6), .val (.int 2), .val (.int q0), .val (.int q1), .val (.int q2), .val (.int q3), .val (.int q4), .val (.ref y102), .val (.ref y112), .val (.int 1)] [(.int (nar .char (own_low q0))), (.int (([own_g (nar .char q0), own_g (nar .char q1)] : List Int32).getD 0 0))]))
      refine FinH.by (fun tt_ kk_ => XS.icmpNo X131.here hx rfl (hb hby at_109) rfl (teq (by show own_g (nar .char q0) = nar .char (own_low q0); unfold own_g; rw [hq0, own_nn] : (([own_g (nar .char q0), own_g (nar .char q1)] : List Int32).getD 0 0) = (nar .char (own_low q0)))).2 kk_) ?_
      refine FinH.by (fun tt_ kk_ => XS.iconst X131.here hx rfl (hb hby at_112) (XS.goto X131.here hx rfl (pc0 := 113) (pc' := 117) rfl (hb hby at_113) (by decide) (by decide) (XS.istore X131.here hx rfl (hb hby at_117) rfl (l' := #[.val (.int p1), .val (.int p2), .val (.int p3), .val (.int p4), .val (.int p5), .val (.int p6), .val (.int 2), .val (.int q0), .val (.int q1), .val (.int q2), .val (.int q3), .val (.int q4), .val (.ref y102), .val (.ref y112), .val (.int 1)]) rfl (XS.iload X131.here hx rfl (hb hby at_119) rfl kk_)))) ?_
      show FinH _ _ _ _ _ _ _ _ _ (T131.setTop (mkF m 121 #[.val (.int p1), .val (.int p2), .val (.int p3), .val (.int p4), .val (.int p5), .val (.int p6), .val (.int 2), .val (.int q0), .val (.int q1), .val (.int q2), .val (.int q3), .val (.int q4), .val (.ref y102), .val (.ref y112), .val (.int 1)] [(.int 1)]))
      refine FinH.by (fun tt_ kk_ => XS.ifNo X131.here hx rfl (hb hby at_121) rfl ((if0 _ _).trans (feq (by decide : ¬ (1 : Int32) = (0 : Int32))).1) kk_) ?_
      refine FinH.by (fun tt_ kk_ => XS.iload X131.here hx rfl (hb hby at_124) rfl (XS.iconst X131.here hx rfl (hb hby at_126) kk_)) ?_
      show FinH _ _ _ _ _ _ _ _ _ (T131.setTop (mkF m 127 #[.val (.int p1), .val (.int p2), .val (.int p3), .val (.int p4), .val (.int p5), .val (.int p6), .val (.int 2), .val (.int q0), .val (.int q1), .val (.int q2), .val (.int q3), .val (.int q4), .val (.ref y102), .val (.ref y112), .val (.int 1)] [(.int 2), (.int 2)]))
      refine FinH.by (fun tt_ kk_ => XS.icmpNo X131.here hx rfl (hb hby at_127) rfl (flt (by decide : ¬ (2 : Int32) < (2 : Int32))).1 kk_) ?_
      refine FinH.by (fun tt_ kk_ => XS.aload X131.here hx rfl (hb hby at_130) rfl rfl (XS.iconst X131.here hx rfl (hb hby at_132) kk_)) ?_
      obtain ⟨cq132, kq132, qa132, qb132, qc132⟩ := isOf hZ111 e131 p111_1
      obtain ⟨v132, _, ⟨T132, L132, k132, n132⟩, -, X132, ⟨Lc132, hQ132, l132, y132, z132⟩, st132⟩ := X131.virtualBack hx (y := y_30) (z := y_30) hown111 (mvT hZ111 (w_ hw 75 rfl)) (mvT hZ111 (w_ hw 76 rfl)) (notFace_of_selects (args := #[]) (mvT hZ111 (w_ hw 78 rfl))) (mvT hZ111 (w_ hw 78 rfl)) (mvT hZ111 (w_ hw 77 rfl)) (by decide) (backOf (W := 0) (rm_chA l Z a0 hw [] y112 ty113 ky114 Ny115 (vy116 : List Value) ([own_g (nar .char q0), own_g (nar .char q1)] : List Int32) cy117 1 (1 : Int32) G1 G9 T111.heap n0 z128 hcd (own_cons (own_nb _) (own_cons (own_nb _) own_nil)) (Nat.le_of_ble_eq_true rfl) (Nat.le_of_ble_eq_true rfl) rfl p111_1 p111_2 p111_3 p111_4 S1 P1 S6 S7 S8 S9 r9 O127) hZ111 (w_ hw 79 rfl) (w_ hw 8 rfl) (by decide) (by decide)) qa132 qc132 (g := (mkF m 133 #[.val (.int p1), .val (.int p2), .val (.int p3), .val (.int p4), .val (.int p5), .val (.int p6), .val (.int 2), .val (.int q0), .val (.int q1), .val (.int q2), .val (.int q3), .val (.int q4), .val (.ref y102), .val (.ref y112), .val (.int 1)] [(.int 1), (.ref y112)])) rfl (by rw [hml]; rfl) (Steps.refl _) (argsL := [(.int 1)]) (rest := []) (lenOf pd_550 rfl) rfl (by show 2 * 0 + _ ≤ _; exact Nat.le_of_eq rfl) (hb hby at_133) (fun _ _ => ⟨rfl, e131, (by decide : 12 + 0 ≤ _), (by decide : 48 + 0 ≤ _)⟩)
      dsimp only [Pt.U, Pt.locs, Pt.cells, Pt.slots] at X132 l132 y132 z132 st132 hQ132
      subst l132 y132 z132
      obtain ⟨rfl, Nq132, e132_⟩ := hQ132
      have N132_ := Fr.app N131_ Nq132
      refine FinH.byS st132 ?_
      have e132 := e132_
      refine FinH.by (fun tt_ kk_ => XS.iload X132.here hx rfl (hb hby at_136) rfl kk_) ?_
      obtain ⟨v133, _, ⟨T133, L133, k133, n133⟩, -, X133, ⟨Lc133, hQ133, l133, y133, z133⟩, st133⟩ := Jvm.LawKit.callS X132 hx (y := y_31) hown111 (mvT hZ111 (w_ hw 91 rfl)) (mvT hZ111 (w_ hw 92 rfl)) (mvT hZ111 (w_ hw 4 rfl)) (mvT hZ111 (w_ hw 93 rfl)) (by decide) (backOf (W := 1) (rm_low l Z a0 hw [] q1 T111.heap n0 z128 ) hZ111 (w_ hw 93 rfl) (w_ hw 4 rfl) (by decide) (by decide)) (g := (mkF m 138 #[.val (.int p1), .val (.int p2), .val (.int p3), .val (.int p4), .val (.int p5), .val (.int p6), .val (.int 2), .val (.int q0), .val (.int q1), .val (.int q2), .val (.int q3), .val (.int q4), .val (.ref y102), .val (.ref y112), .val (.int 1)] [(.int q1), (.int (([own_g (nar .char q0), own_g (nar .char q1)] : List Int32).getD 1 0))])) rfl (by rw [hml]; rfl) (argsL := [(.int q1)]) (rest := [(.int (([own_g (nar .char q0), own_g (nar .char q1)] : List Int32).getD 1 0))]) (lenOf pd_542 rfl) rfl (by show 2 * 0 + _ ≤ _; exact Nat.le_of_eq rfl) (hb hby at_138) (fun _ _ => ⟨rfl, e132, (by decide : 12 + 0 ≤ _), (by decide : 48 + 0 ≤ _)⟩)
      dsimp only [Pt.U, Pt.locs, Pt.cells, Pt.slots] at X133 l133 y133 z133 st133 hQ133
      subst l133 y133 z133
      obtain ⟨rfl, Nq133, e133_⟩ := hQ133
      have N133_ := Fr.app N132_ Nq133
      refine FinH.by (fun tt_ kk_ => st133 tt_ kk_) ?_
      have e133 := e133_
      show FinH _ _ _ _ _ _ _ _ _ (T133.setTop (mkF m 141 #[.val (.int p1), .val (.int p2), .val (.int p3), .val (.int p4), .val (.int p5), .val (.int p6), .val (.int 2), .val (.int q0), .val (.int q1), .val (.int q2), .val (.int q3), .val (.int q4), .val (.ref y102), .val (.ref y112), .val (.int 1)] [(.int (nar .char (own_low q1))), (.int (([own_g (nar .char q0), own_g (nar .char q1)] : List Int32).getD 1 0))]))
      refine FinH.by (fun tt_ kk_ => XS.icmpNo X133.here hx rfl (hb hby at_141) rfl (teq (by show own_g (nar .char q1) = nar .char (own_low q1); unfold own_g; rw [hq1, own_nn] : (([own_g (nar .char q0), own_g (nar .char q1)] : List Int32).getD 1 0) = (nar .char (own_low q1)))).2 kk_) ?_
      refine FinH.by (fun tt_ kk_ => XS.iconst X133.here hx rfl (hb hby at_144) (XS.goto X133.here hx rfl (pc0 := 145) (pc' := 149) rfl (hb hby at_145) (by decide) (by decide) (XS.istore X133.here hx rfl (hb hby at_149) rfl (l' := #[.val (.int p1), .val (.int p2), .val (.int p3), .val (.int p4), .val (.int p5), .val (.int p6), .val (.int 2), .val (.int q0), .val (.int q1), .val (.int q2), .val (.int q3), .val (.int q4), .val (.ref y102), .val (.ref y112), .val (.int 1)]) rfl (XS.iload X133.here hx rfl (hb hby at_151) rfl kk_)))) ?_
      show FinH _ _ _ _ _ _ _ _ _ (T133.setTop (mkF m 153 #[.val (.int p1), .val (.int p2), .val (.int p3), .val (.int p4), .val (.int p5), .val (.int p6), .val (.int 2), .val (.int q0), .val (.int q1), .val (.int q2), .val (.int q3), .val (.int q4), .val (.ref y102), .val (.ref y112), .val (.int 1)] [(.int 1)]))
      refine FinH.by (fun tt_ kk_ => XS.ifNo X133.here hx rfl (hb hby at_153) rfl ((if0 _ _).trans (feq (by decide : ¬ (1 : Int32) = (0 : Int32))).1) kk_) ?_
      refine FinH.by (fun tt_ kk_ => XS.iload X133.here hx rfl (hb hby at_156) rfl (XS.iconst X133.here hx rfl (hb hby at_158) kk_)) ?_
      show FinH _ _ _ _ _ _ _ _ _ (T133.setTop (mkF m 159 #[.val (.int p1), .val (.int p2), .val (.int p3), .val (.int p4), .val (.int p5), .val (.int p6), .val (.int 2), .val (.int q0), .val (.int q1), .val (.int q2), .val (.int q3), .val (.int q4), .val (.ref y102), .val (.ref y112), .val (.int 1)] [(.int 3), (.int 2)]))
      refine FinH.by (fun tt_ kk_ => XS.icmpYes X133.here hx rfl (pc0 := 159) (pc' := 176) rfl (hb hby at_159) rfl (tlt (by decide : (2 : Int32) < (3 : Int32))).1 (by decide) (by decide) kk_) ?_
      refine FinH.by (fun tt_ kk_ => XS.iconst X133.here hx rfl (hb hby at_176) (XS.goto X133.here hx rfl (pc0 := 177) (pc' := 181) rfl (hb hby at_177) (by decide) (by decide) (XS.istore X133.here hx rfl (hb hby at_181) rfl (l' := #[.val (.int p1), .val (.int p2), .val (.int p3), .val (.int p4), .val (.int p5), .val (.int p6), .val (.int 2), .val (.int q0), .val (.int q1), .val (.int q2), .val (.int q3), .val (.int q4), .val (.ref y102), .val (.ref y112), .val (.int 1)]) rfl (XS.iload X133.here hx rfl (hb hby at_183) rfl kk_)))) ?_
      show FinH _ _ _ _ _ _ _ _ _ (T133.setTop (mkF m 185 #[.val (.int p1), .val (.int p2), .val (.int p3), .val (.int p4), .val (.int p5), .val (.int p6), .val (.int 2), .val (.int q0), .val (.int q1), .val (.int q2), .val (.int q3), .val (.int q4), .val (.ref y102), .val (.ref y112), .val (.int 1)] [(.int 1)]))
      refine FinH.by (fun tt_ kk_ => XS.ifNo X133.here hx rfl (hb hby at_185) rfl ((if0 _ _).trans (feq (by decide : ¬ (1 : Int32) = (0 : Int32))).1) kk_) ?_
      refine FinH.by (fun tt_ kk_ => XS.iload X133.here hx rfl (hb hby at_188) rfl (XS.iconst X133.here hx rfl (hb hby at_190) kk_)) ?_
      show FinH _ _ _ _ _ _ _ _ _ (T133.setTop (mkF m 191 #[.val (.int p1), .val (.int p2), .val (.int p3), .val (.int p4), .val (.int p5), .val (.int p6), .val (.int 2), .val (.int q0), .val (.int q1), .val (.int q2), .val (.int q3), .val (.int q4), .val (.ref y102), .val (.ref y112), .val (.int 1)] [(.int 4), (.int 2)]))
      refine FinH.by (fun tt_ kk_ => XS.icmpYes X133.here hx rfl (pc0 := 191) (pc' := 208) rfl (hb hby at_191) rfl (tlt (by decide : (2 : Int32) < (4 : Int32))).1 (by decide) (by decide) kk_) ?_
      refine FinH.by (fun tt_ kk_ => XS.iconst X133.here hx rfl (hb hby at_208) (XS.goto X133.here hx rfl (pc0 := 209) (pc' := 213) rfl (hb hby at_209) (by decide) (by decide) (XS.istore X133.here hx rfl (hb hby at_213) rfl (l' := #[.val (.int p1), .val (.int p2), .val (.int p3), .val (.int p4), .val (.int p5), .val (.int p6), .val (.int 2), .val (.int q0), .val (.int q1), .val (.int q2), .val (.int q3), .val (.int q4), .val (.ref y102), .val (.ref y112), .val (.int 1)]) rfl (XS.iload X133.here hx rfl (hb hby at_215) rfl kk_)))) ?_
      show FinH _ _ _ _ _ _ _ _ _ (T133.setTop (mkF m 217 #[.val (.int p1), .val (.int p2), .val (.int p3), .val (.int p4), .val (.int p5), .val (.int p6), .val (.int 2), .val (.int q0), .val (.int q1), .val (.int q2), .val (.int q3), .val (.int q4), .val (.ref y102), .val (.ref y112), .val (.int 1)] [(.int 1)]))
      refine FinH.by (fun tt_ kk_ => XS.ifNo X133.here hx rfl (hb hby at_217) rfl ((if0 _ _).trans (feq (by decide : ¬ (1 : Int32) = (0 : Int32))).1) kk_) ?_
      refine FinH.by (fun tt_ kk_ => XS.iload X133.here hx rfl (hb hby at_220) rfl (XS.iconst X133.here hx rfl (hb hby at_222) kk_)) ?_
      show FinH _ _ _ _ _ _ _ _ _ (T133.setTop (mkF m 223 #[.val (.int p1), .val (.int p2), .val (.int p3), .val (.int p4), .val (.int p5), .val (.int p6), .val (.int 2), .val (.int q0), .val (.int q1), .val (.int q2), .val (.int q3), .val (.int q4), .val (.ref y102), .val (.ref y112), .val (.int 1)] [(.int 5), (.int 2)]))
      refine FinH.by (fun tt_ kk_ => XS.icmpYes X133.here hx rfl (pc0 := 223) (pc' := 240) rfl (hb hby at_223) rfl (tlt (by decide : (2 : Int32) < (5 : Int32))).1 (by decide) (by decide) kk_) ?_
      refine FinH.by (fun tt_ kk_ => XS.iconst X133.here hx rfl (hb hby at_240) (XS.goto X133.here hx rfl (pc0 := 241) (pc' := 245) rfl (hb hby at_241) (by decide) (by decide) (XS.istore X133.here hx rfl (hb hby at_245) rfl (l' := #[.val (.int p1), .val (.int p2), .val (.int p3), .val (.int p4), .val (.int p5), .val (.int p6), .val (.int 2), .val (.int q0), .val (.int q1), .val (.int q2), .val (.int q3), .val (.int q4), .val (.ref y102), .val (.ref y112), .val (.int 1)]) rfl (XS.iload X133.here hx rfl (hb hby at_247) rfl kk_)))) ?_
      show FinH _ _ _ _ _ _ _ _ _ (T133.setTop (mkF m 249 #[.val (.int p1), .val (.int p2), .val (.int p3), .val (.int p4), .val (.int p5), .val (.int p6), .val (.int 2), .val (.int q0), .val (.int q1), .val (.int q2), .val (.int q3), .val (.int q4), .val (.ref y102), .val (.ref y112), .val (.int 1)] [(.int 1)]))
      exact FinH.ret (v := some (.int (nar .boolean (1 : Int32)))) X133 hS111w (by rw [e133]; exact (Nat.le_refl _)) (fun h => by rw [Bd.returns] at h; cases h) Bd.notSynchronized (by rw [e133]; exact ⟨rfl, N133_⟩) (by rw [hh, e133]; exact ch118.trans (CHv.at X133 hZ111 own_EW ch118.1)) (by decide) (by decide) (fun fs hr => retN X133 hx (t := .boolean) Bd.returns (by simp) (hb hby at_249) hr)
    · have hcd : StrChars.Road.CodA ([own_g (nar .char q0), own_g (nar .char q1), own_g (nar .char q2)] : List Int32) cy117 Ny115 vy116 := by have q := p111_5; rw [own_mk3] at q; exact q
      have O134 : Old Z n0 T111.heap := (O109.keep p111_0 all0)
      have z135 : n0 ≤ T111.heap.size := Nat.le_trans z110 p111_0.1
      obtain ⟨cq136, kq136, qa136, qb136, qc136⟩ := isOf hZ111 rfl p111_1
      obtain ⟨v136, _, ⟨T136, L136, k136, n136⟩, -, X136, ⟨Lc136, hQ136, l136, y136, z136⟩, st136⟩ := X111w.virtualBack hx (y := y_29) (z := y_29) hown111 (mvT hZ111 (w_ hw 52 rfl)) (mvT hZ111 (w_ hw 53 rfl)) (notFace_of_selects (args := #[]) (mvT hZ111 (w_ hw 55 rfl))) (mvT hZ111 (w_ hw 55 rfl)) (mvT hZ111 (w_ hw 54 rfl)) (by decide) (backOf (W := 0) (rm_sle l Z a0 hw [] y112 ty113 ky114 Ny115 (vy116 : List Value) ([own_g (nar .char q0), own_g (nar .char q1), own_g (nar .char q2)] : List Int32) cy117 G1 T111.heap n0 z135 hcd (Nat.le_of_ble_eq_true rfl) p111_1 p111_2 p111_3 p111_4 S1 P1 O134) hZ111 (w_ hw 56 rfl) (w_ hw 8 rfl) (by decide) (by decide)) qa136 qc136 (g := (mkF m 72 #[.val (.int p1), .val (.int p2), .val (.int p3), .val (.int p4), .val (.int p5), .val (.int p6), .val (.int 3), .val (.int q0), .val (.int q1), .val (.int q2), .val (.int q3), .val (.int q4), .val (.ref y102), .val (.ref y112), .unset] [(.ref y112)])) rfl (by rw [hml]; rfl) (Steps.refl _) (argsL := []) (rest := []) (lenOf pd_549 rfl) rfl (by show 2 * 0 + _ ≤ _; exact Nat.le_of_eq rfl) (hb hby at_72) (fun _ _ => ⟨rfl, rfl, (by decide : 12 + 0 ≤ _), (by decide : 48 + 0 ≤ _)⟩)
      dsimp only [Pt.U, Pt.locs, Pt.cells, Pt.slots] at X136 l136 y136 z136 st136 hQ136
      subst l136 y136 z136
      obtain ⟨rfl, Nq136, e136_⟩ := hQ136
      have N136_ := Fr.app N111_ Nq136
      refine FinH.byS st136 ?_
      have e136 := e136_
      refine FinH.by (fun tt_ kk_ => XS.iload X136.here hx rfl (hb hby at_75) rfl kk_) ?_
      show FinH _ _ _ _ _ _ _ _ _ (T136.setTop (mkF m 77 #[.val (.int p1), .val (.int p2), .val (.int p3), .val (.int p4), .val (.int p5), .val (.int p6), .val (.int 3), .val (.int q0), .val (.int q1), .val (.int q2), .val (.int q3), .val (.int q4), .val (.ref y102), .val (.ref y112), .unset] [(.int 3), (.int (Int32.ofNat ([own_g (nar .char q0), own_g (nar .char q1), own_g (nar .char q2)] : List Int32).length))]))
      refine FinH.by (fun tt_ kk_ => XS.icmpNo X136.here hx rfl (hb hby at_77) rfl (teq (rfl : (Int32.ofNat ([own_g (nar .char q0), own_g (nar .char q1), own_g (nar .char q2)] : List Int32).length) = (3 : Int32))).2 kk_) ?_
      refine FinH.by (fun tt_ kk_ => XS.iconst X136.here hx rfl (hb hby at_80) (XS.goto X136.here hx rfl (pc0 := 81) (pc' := 85) rfl (hb hby at_81) (by decide) (by decide) (XS.istore X136.here hx rfl (hb hby at_85) rfl (l' := #[.val (.int p1), .val (.int p2), .val (.int p3), .val (.int p4), .val (.int p5), .val (.int p6), .val (.int 3), .val (.int q0), .val (.int q1), .val (.int q2), .val (.int q3), .val (.int q4), .val (.ref y102), .val (.ref y112), .val (.int 1)]) rfl (XS.iload X136.here hx rfl (hb hby at_87) rfl kk_)))) ?_
      show FinH _ _ _ _ _ _ _ _ _ (T136.setTop (mkF m 89 #[.val (.int p1), .val (.int p2), .val (.int p3), .val (.int p4), .val (.int p5), .val (.int p6), .val (.int 3), .val (.int q0), .val (.int q1), .val (.int q2), .val (.int q3), .val (.int q4), .val (.ref y102), .val (.ref y112), .val (.int 1)] [(.int 1)]))
      refine FinH.by (fun tt_ kk_ => XS.ifNo X136.here hx rfl (hb hby at_89) rfl ((if0 _ _).trans (feq (by decide : ¬ (1 : Int32) = (0 : Int32))).1) kk_) ?_
      refine FinH.by (fun tt_ kk_ => XS.iload X136.here hx rfl (hb hby at_92) rfl (XS.iconst X136.here hx rfl (hb hby at_94) kk_)) ?_
      show FinH _ _ _ _ _ _ _ _ _ (T136.setTop (mkF m 95 #[.val (.int p1), .val (.int p2), .val (.int p3), .val (.int p4), .val (.int p5), .val (.int p6), .val (.int 3), .val (.int q0), .val (.int q1), .val (.int q2), .val (.int q3), .val (.int q4), .val (.ref y102), .val (.ref y112), .val (.int 1)] [(.int 1), (.int 3)]))
      refine FinH.by (fun tt_ kk_ => XS.icmpNo X136.here hx rfl (hb hby at_95) rfl (flt (by decide : ¬ (3 : Int32) < (1 : Int32))).1 kk_) ?_
      refine FinH.by (fun tt_ kk_ => XS.aload X136.here hx rfl (hb hby at_98) rfl rfl (XS.iconst X136.here hx rfl (hb hby at_100) kk_)) ?_
      obtain ⟨cq137, kq137, qa137, qb137, qc137⟩ := isOf hZ111 e136 p111_1
      obtain ⟨v137, _, ⟨T137, L137, k137, n137⟩, -, X137, ⟨Lc137, hQ137, l137, y137, z137⟩, st137⟩ := X136.virtualBack hx (y := y_30) (z := y_30) hown111 (mvT hZ111 (w_ hw 75 rfl)) (mvT hZ111 (w_ hw 76 rfl)) (notFace_of_selects (args := #[]) (mvT hZ111 (w_ hw 78 rfl))) (mvT hZ111 (w_ hw 78 rfl)) (mvT hZ111 (w_ hw 77 rfl)) (by decide) (backOf (W := 0) (rm_chA l Z a0 hw [] y112 ty113 ky114 Ny115 (vy116 : List Value) ([own_g (nar .char q0), own_g (nar .char q1), own_g (nar .char q2)] : List Int32) cy117 0 (0 : Int32) G1 G9 T111.heap n0 z135 hcd (own_cons (own_nb _) (own_cons (own_nb _) (own_cons (own_nb _) own_nil))) (Nat.le_of_ble_eq_true rfl) (Nat.le_of_ble_eq_true rfl) rfl p111_1 p111_2 p111_3 p111_4 S1 P1 S6 S7 S8 S9 r9 O134) hZ111 (w_ hw 79 rfl) (w_ hw 8 rfl) (by decide) (by decide)) qa137 qc137 (g := (mkF m 101 #[.val (.int p1), .val (.int p2), .val (.int p3), .val (.int p4), .val (.int p5), .val (.int p6), .val (.int 3), .val (.int q0), .val (.int q1), .val (.int q2), .val (.int q3), .val (.int q4), .val (.ref y102), .val (.ref y112), .val (.int 1)] [(.int 0), (.ref y112)])) rfl (by rw [hml]; rfl) (Steps.refl _) (argsL := [(.int 0)]) (rest := []) (lenOf pd_550 rfl) rfl (by show 2 * 0 + _ ≤ _; exact Nat.le_of_eq rfl) (hb hby at_101) (fun _ _ => ⟨rfl, e136, (by decide : 12 + 0 ≤ _), (by decide : 48 + 0 ≤ _)⟩)
      dsimp only [Pt.U, Pt.locs, Pt.cells, Pt.slots] at X137 l137 y137 z137 st137 hQ137
      subst l137 y137 z137
      obtain ⟨rfl, Nq137, e137_⟩ := hQ137
      have N137_ := Fr.app N136_ Nq137
      refine FinH.byS st137 ?_
      have e137 := e137_
      refine FinH.by (fun tt_ kk_ => XS.iload X137.here hx rfl (hb hby at_104) rfl kk_) ?_
      obtain ⟨v138, _, ⟨T138, L138, k138, n138⟩, -, X138, ⟨Lc138, hQ138, l138, y138, z138⟩, st138⟩ := Jvm.LawKit.callS X137 hx (y := y_31) hown111 (mvT hZ111 (w_ hw 91 rfl)) (mvT hZ111 (w_ hw 92 rfl)) (mvT hZ111 (w_ hw 4 rfl)) (mvT hZ111 (w_ hw 93 rfl)) (by decide) (backOf (W := 1) (rm_low l Z a0 hw [] q0 T111.heap n0 z135 ) hZ111 (w_ hw 93 rfl) (w_ hw 4 rfl) (by decide) (by decide)) (g := (mkF m 106 #[.val (.int p1), .val (.int p2), .val (.int p3), .val (.int p4), .val (.int p5), .val (.int p6), .val (.int 3), .val (.int q0), .val (.int q1), .val (.int q2), .val (.int q3), .val (.int q4), .val (.ref y102), .val (.ref y112), .val (.int 1)] [(.int q0), (.int (([own_g (nar .char q0), own_g (nar .char q1), own_g (nar .char q2)] : List Int32).getD 0 0))])) rfl (by rw [hml]; rfl) (argsL := [(.int q0)]) (rest := [(.int (([own_g (nar .char q0), own_g (nar .char q1), own_g (nar .char q2)] : List Int32).getD 0 0))]) (lenOf pd_542 rfl) rfl (by show 2 * 0 + _ ≤ _; exact Nat.le_of_eq rfl) (hb hby at_106) (fun _ _ => ⟨rfl, e137, (by decide : 12 + 0 ≤ _), (by decide : 48 + 0 ≤ _)⟩)
      dsimp only [Pt.U, Pt.locs, Pt.cells, Pt.slots] at X138 l138 y138 z138 st138 hQ138
      subst l138 y138 z138
      obtain ⟨rfl, Nq138, e138_⟩ := hQ138
      have N138_ := Fr.app N137_ Nq138
      refine FinH.by (fun tt_ kk_ => st138 tt_ kk_) ?_
      have e138 := e138_
      show FinH _ _ _ _ _ _ _ _ _ (T138.setTop (mkF m 109 #[.val (.int p1), .val (.int p2), .val (.int p3), .val (.int p4), .val (.int p5), .val (.int p6), .val (.int 3), .val (.int q0), .val (.int q1), .val (.int q2), .val (.int q3), .val (.int q4), .val (.ref y102), .val (.ref y112), .val (.int 1)] [(.int (nar .char (own_low q0))), (.int (([own_g (nar .char q0), own_g (nar .char q1), own_g (nar .char q2)] : List Int32).getD 0 0))]))
      refine FinH.by (fun tt_ kk_ => XS.icmpNo X138.here hx rfl (hb hby at_109) rfl (teq (by show own_g (nar .char q0) = nar .char (own_low q0); unfold own_g; rw [hq0, own_nn] : (([own_g (nar .char q0), own_g (nar .char q1), own_g (nar .char q2)] : List Int32).getD 0 0) = (nar .char (own_low q0)))).2 kk_) ?_
      refine FinH.by (fun tt_ kk_ => XS.iconst X138.here hx rfl (hb hby at_112) (XS.goto X138.here hx rfl (pc0 := 113) (pc' := 117) rfl (hb hby at_113) (by decide) (by decide) (XS.istore X138.here hx rfl (hb hby at_117) rfl (l' := #[.val (.int p1), .val (.int p2), .val (.int p3), .val (.int p4), .val (.int p5), .val (.int p6), .val (.int 3), .val (.int q0), .val (.int q1), .val (.int q2), .val (.int q3), .val (.int q4), .val (.ref y102), .val (.ref y112), .val (.int 1)]) rfl (XS.iload X138.here hx rfl (hb hby at_119) rfl kk_)))) ?_
      show FinH _ _ _ _ _ _ _ _ _ (T138.setTop (mkF m 121 #[.val (.int p1), .val (.int p2), .val (.int p3), .val (.int p4), .val (.int p5), .val (.int p6), .val (.int 3), .val (.int q0), .val (.int q1), .val (.int q2), .val (.int q3), .val (.int q4), .val (.ref y102), .val (.ref y112), .val (.int 1)] [(.int 1)]))
      refine FinH.by (fun tt_ kk_ => XS.ifNo X138.here hx rfl (hb hby at_121) rfl ((if0 _ _).trans (feq (by decide : ¬ (1 : Int32) = (0 : Int32))).1) kk_) ?_
      refine FinH.by (fun tt_ kk_ => XS.iload X138.here hx rfl (hb hby at_124) rfl (XS.iconst X138.here hx rfl (hb hby at_126) kk_)) ?_
      show FinH _ _ _ _ _ _ _ _ _ (T138.setTop (mkF m 127 #[.val (.int p1), .val (.int p2), .val (.int p3), .val (.int p4), .val (.int p5), .val (.int p6), .val (.int 3), .val (.int q0), .val (.int q1), .val (.int q2), .val (.int q3), .val (.int q4), .val (.ref y102), .val (.ref y112), .val (.int 1)] [(.int 2), (.int 3)]))
      refine FinH.by (fun tt_ kk_ => XS.icmpNo X138.here hx rfl (hb hby at_127) rfl (flt (by decide : ¬ (3 : Int32) < (2 : Int32))).1 kk_) ?_
      refine FinH.by (fun tt_ kk_ => XS.aload X138.here hx rfl (hb hby at_130) rfl rfl (XS.iconst X138.here hx rfl (hb hby at_132) kk_)) ?_
      obtain ⟨cq139, kq139, qa139, qb139, qc139⟩ := isOf hZ111 e138 p111_1
      obtain ⟨v139, _, ⟨T139, L139, k139, n139⟩, -, X139, ⟨Lc139, hQ139, l139, y139, z139⟩, st139⟩ := X138.virtualBack hx (y := y_30) (z := y_30) hown111 (mvT hZ111 (w_ hw 75 rfl)) (mvT hZ111 (w_ hw 76 rfl)) (notFace_of_selects (args := #[]) (mvT hZ111 (w_ hw 78 rfl))) (mvT hZ111 (w_ hw 78 rfl)) (mvT hZ111 (w_ hw 77 rfl)) (by decide) (backOf (W := 0) (rm_chA l Z a0 hw [] y112 ty113 ky114 Ny115 (vy116 : List Value) ([own_g (nar .char q0), own_g (nar .char q1), own_g (nar .char q2)] : List Int32) cy117 1 (1 : Int32) G1 G9 T111.heap n0 z135 hcd (own_cons (own_nb _) (own_cons (own_nb _) (own_cons (own_nb _) own_nil))) (Nat.le_of_ble_eq_true rfl) (Nat.le_of_ble_eq_true rfl) rfl p111_1 p111_2 p111_3 p111_4 S1 P1 S6 S7 S8 S9 r9 O134) hZ111 (w_ hw 79 rfl) (w_ hw 8 rfl) (by decide) (by decide)) qa139 qc139 (g := (mkF m 133 #[.val (.int p1), .val (.int p2), .val (.int p3), .val (.int p4), .val (.int p5), .val (.int p6), .val (.int 3), .val (.int q0), .val (.int q1), .val (.int q2), .val (.int q3), .val (.int q4), .val (.ref y102), .val (.ref y112), .val (.int 1)] [(.int 1), (.ref y112)])) rfl (by rw [hml]; rfl) (Steps.refl _) (argsL := [(.int 1)]) (rest := []) (lenOf pd_550 rfl) rfl (by show 2 * 0 + _ ≤ _; exact Nat.le_of_eq rfl) (hb hby at_133) (fun _ _ => ⟨rfl, e138, (by decide : 12 + 0 ≤ _), (by decide : 48 + 0 ≤ _)⟩)
      dsimp only [Pt.U, Pt.locs, Pt.cells, Pt.slots] at X139 l139 y139 z139 st139 hQ139
      subst l139 y139 z139
      obtain ⟨rfl, Nq139, e139_⟩ := hQ139
      have N139_ := Fr.app N138_ Nq139
      refine FinH.byS st139 ?_
      have e139 := e139_
      refine FinH.by (fun tt_ kk_ => XS.iload X139.here hx rfl (hb hby at_136) rfl kk_) ?_
      obtain ⟨v140, _, ⟨T140, L140, k140, n140⟩, -, X140, ⟨Lc140, hQ140, l140, y140, z140⟩, st140⟩ := Jvm.LawKit.callS X139 hx (y := y_31) hown111 (mvT hZ111 (w_ hw 91 rfl)) (mvT hZ111 (w_ hw 92 rfl)) (mvT hZ111 (w_ hw 4 rfl)) (mvT hZ111 (w_ hw 93 rfl)) (by decide) (backOf (W := 1) (rm_low l Z a0 hw [] q1 T111.heap n0 z135 ) hZ111 (w_ hw 93 rfl) (w_ hw 4 rfl) (by decide) (by decide)) (g := (mkF m 138 #[.val (.int p1), .val (.int p2), .val (.int p3), .val (.int p4), .val (.int p5), .val (.int p6), .val (.int 3), .val (.int q0), .val (.int q1), .val (.int q2), .val (.int q3), .val (.int q4), .val (.ref y102), .val (.ref y112), .val (.int 1)] [(.int q1), (.int (([own_g (nar .char q0), own_g (nar .char q1), own_g (nar .char q2)] : List Int32).getD 1 0))])) rfl (by rw [hml]; rfl) (argsL := [(.int q1)]) (rest := [(.int (([own_g (nar .char q0), own_g (nar .char q1), own_g (nar .char q2)] : List Int32).getD 1 0))]) (lenOf pd_542 rfl) rfl (by show 2 * 0 + _ ≤ _; exact Nat.le_of_eq rfl) (hb hby at_138) (fun _ _ => ⟨rfl, e139, (by decide : 12 + 0 ≤ _), (by decide : 48 + 0 ≤ _)⟩)
      dsimp only [Pt.U, Pt.locs, Pt.cells, Pt.slots] at X140 l140 y140 z140 st140 hQ140
      subst l140 y140 z140
      obtain ⟨rfl, Nq140, e140_⟩ := hQ140
      have N140_ := Fr.app N139_ Nq140
      refine FinH.by (fun tt_ kk_ => st140 tt_ kk_) ?_
      have e140 := e140_
      show FinH _ _ _ _ _ _ _ _ _ (T140.setTop (mkF m 141 #[.val (.int p1), .val (.int p2), .val (.int p3), .val (.int p4), .val (.int p5), .val (.int p6), .val (.int 3), .val (.int q0), .val (.int q1), .val (.int q2), .val (.int q3), .val (.int q4), .val (.ref y102), .val (.ref y112), .val (.int 1)] [(.int (nar .char (own_low q1))), (.int (([own_g (nar .char q0), own_g (nar .char q1), own_g (nar .char q2)] : List Int32).getD 1 0))]))
      refine FinH.by (fun tt_ kk_ => XS.icmpNo X140.here hx rfl (hb hby at_141) rfl (teq (by show own_g (nar .char q1) = nar .char (own_low q1); unfold own_g; rw [hq1, own_nn] : (([own_g (nar .char q0), own_g (nar .char q1), own_g (nar .char q2)] : List Int32).getD 1 0) = (nar .char (own_low q1)))).2 kk_) ?_
      refine FinH.by (fun tt_ kk_ => XS.iconst X140.here hx rfl (hb hby at_144) (XS.goto X140.here hx rfl (pc0 := 145) (pc' := 149) rfl (hb hby at_145) (by decide) (by decide) (XS.istore X140.here hx rfl (hb hby at_149) rfl (l' := #[.val (.int p1), .val (.int p2), .val (.int p3), .val (.int p4), .val (.int p5), .val (.int p6), .val (.int 3), .val (.int q0), .val (.int q1), .val (.int q2), .val (.int q3), .val (.int q4), .val (.ref y102), .val (.ref y112), .val (.int 1)]) rfl (XS.iload X140.here hx rfl (hb hby at_151) rfl kk_)))) ?_
      show FinH _ _ _ _ _ _ _ _ _ (T140.setTop (mkF m 153 #[.val (.int p1), .val (.int p2), .val (.int p3), .val (.int p4), .val (.int p5), .val (.int p6), .val (.int 3), .val (.int q0), .val (.int q1), .val (.int q2), .val (.int q3), .val (.int q4), .val (.ref y102), .val (.ref y112), .val (.int 1)] [(.int 1)]))
      refine FinH.by (fun tt_ kk_ => XS.ifNo X140.here hx rfl (hb hby at_153) rfl ((if0 _ _).trans (feq (by decide : ¬ (1 : Int32) = (0 : Int32))).1) kk_) ?_
      refine FinH.by (fun tt_ kk_ => XS.iload X140.here hx rfl (hb hby at_156) rfl (XS.iconst X140.here hx rfl (hb hby at_158) kk_)) ?_
      show FinH _ _ _ _ _ _ _ _ _ (T140.setTop (mkF m 159 #[.val (.int p1), .val (.int p2), .val (.int p3), .val (.int p4), .val (.int p5), .val (.int p6), .val (.int 3), .val (.int q0), .val (.int q1), .val (.int q2), .val (.int q3), .val (.int q4), .val (.ref y102), .val (.ref y112), .val (.int 1)] [(.int 3), (.int 3)]))
      refine FinH.by (fun tt_ kk_ => XS.icmpNo X140.here hx rfl (hb hby at_159) rfl (flt (by decide : ¬ (3 : Int32) < (3 : Int32))).1 kk_) ?_
      refine FinH.by (fun tt_ kk_ => XS.aload X140.here hx rfl (hb hby at_162) rfl rfl (XS.iconst X140.here hx rfl (hb hby at_164) kk_)) ?_
      obtain ⟨cq141, kq141, qa141, qb141, qc141⟩ := isOf hZ111 e140 p111_1
      obtain ⟨v141, _, ⟨T141, L141, k141, n141⟩, -, X141, ⟨Lc141, hQ141, l141, y141, z141⟩, st141⟩ := X140.virtualBack hx (y := y_30) (z := y_30) hown111 (mvT hZ111 (w_ hw 75 rfl)) (mvT hZ111 (w_ hw 76 rfl)) (notFace_of_selects (args := #[]) (mvT hZ111 (w_ hw 78 rfl))) (mvT hZ111 (w_ hw 78 rfl)) (mvT hZ111 (w_ hw 77 rfl)) (by decide) (backOf (W := 0) (rm_chA l Z a0 hw [] y112 ty113 ky114 Ny115 (vy116 : List Value) ([own_g (nar .char q0), own_g (nar .char q1), own_g (nar .char q2)] : List Int32) cy117 2 (2 : Int32) G1 G9 T111.heap n0 z135 hcd (own_cons (own_nb _) (own_cons (own_nb _) (own_cons (own_nb _) own_nil))) (Nat.le_of_ble_eq_true rfl) (Nat.le_of_ble_eq_true rfl) rfl p111_1 p111_2 p111_3 p111_4 S1 P1 S6 S7 S8 S9 r9 O134) hZ111 (w_ hw 79 rfl) (w_ hw 8 rfl) (by decide) (by decide)) qa141 qc141 (g := (mkF m 165 #[.val (.int p1), .val (.int p2), .val (.int p3), .val (.int p4), .val (.int p5), .val (.int p6), .val (.int 3), .val (.int q0), .val (.int q1), .val (.int q2), .val (.int q3), .val (.int q4), .val (.ref y102), .val (.ref y112), .val (.int 1)] [(.int 2), (.ref y112)])) rfl (by rw [hml]; rfl) (Steps.refl _) (argsL := [(.int 2)]) (rest := []) (lenOf pd_550 rfl) rfl (by show 2 * 0 + _ ≤ _; exact Nat.le_of_eq rfl) (hb hby at_165) (fun _ _ => ⟨rfl, e140, (by decide : 12 + 0 ≤ _), (by decide : 48 + 0 ≤ _)⟩)
      dsimp only [Pt.U, Pt.locs, Pt.cells, Pt.slots] at X141 l141 y141 z141 st141 hQ141
      subst l141 y141 z141
      obtain ⟨rfl, Nq141, e141_⟩ := hQ141
      have N141_ := Fr.app N140_ Nq141
      refine FinH.byS st141 ?_
      have e141 := e141_
      refine FinH.by (fun tt_ kk_ => XS.iload X141.here hx rfl (hb hby at_168) rfl kk_) ?_
      obtain ⟨v142, _, ⟨T142, L142, k142, n142⟩, -, X142, ⟨Lc142, hQ142, l142, y142, z142⟩, st142⟩ := Jvm.LawKit.callS X141 hx (y := y_31) hown111 (mvT hZ111 (w_ hw 91 rfl)) (mvT hZ111 (w_ hw 92 rfl)) (mvT hZ111 (w_ hw 4 rfl)) (mvT hZ111 (w_ hw 93 rfl)) (by decide) (backOf (W := 1) (rm_low l Z a0 hw [] q2 T111.heap n0 z135 ) hZ111 (w_ hw 93 rfl) (w_ hw 4 rfl) (by decide) (by decide)) (g := (mkF m 170 #[.val (.int p1), .val (.int p2), .val (.int p3), .val (.int p4), .val (.int p5), .val (.int p6), .val (.int 3), .val (.int q0), .val (.int q1), .val (.int q2), .val (.int q3), .val (.int q4), .val (.ref y102), .val (.ref y112), .val (.int 1)] [(.int q2), (.int (([own_g (nar .char q0), own_g (nar .char q1), own_g (nar .char q2)] : List Int32).getD 2 0))])) rfl (by rw [hml]; rfl) (argsL := [(.int q2)]) (rest := [(.int (([own_g (nar .char q0), own_g (nar .char q1), own_g (nar .char q2)] : List Int32).getD 2 0))]) (lenOf pd_542 rfl) rfl (by show 2 * 0 + _ ≤ _; exact Nat.le_of_eq rfl) (hb hby at_170) (fun _ _ => ⟨rfl, e141, (by decide : 12 + 0 ≤ _), (by decide : 48 + 0 ≤ _)⟩)
      dsimp only [Pt.U, Pt.locs, Pt.cells, Pt.slots] at X142 l142 y142 z142 st142 hQ142
      subst l142 y142 z142
      obtain ⟨rfl, Nq142, e142_⟩ := hQ142
      have N142_ := Fr.app N141_ Nq142
      refine FinH.by (fun tt_ kk_ => st142 tt_ kk_) ?_
      have e142 := e142_
      show FinH _ _ _ _ _ _ _ _ _ (T142.setTop (mkF m 173 #[.val (.int p1), .val (.int p2), .val (.int p3), .val (.int p4), .val (.int p5), .val (.int p6), .val (.int 3), .val (.int q0), .val (.int q1), .val (.int q2), .val (.int q3), .val (.int q4), .val (.ref y102), .val (.ref y112), .val (.int 1)] [(.int (nar .char (own_low q2))), (.int (([own_g (nar .char q0), own_g (nar .char q1), own_g (nar .char q2)] : List Int32).getD 2 0))]))
      refine FinH.by (fun tt_ kk_ => XS.icmpNo X142.here hx rfl (hb hby at_173) rfl (teq (by show own_g (nar .char q2) = nar .char (own_low q2); unfold own_g; rw [hq2, own_nn] : (([own_g (nar .char q0), own_g (nar .char q1), own_g (nar .char q2)] : List Int32).getD 2 0) = (nar .char (own_low q2)))).2 kk_) ?_
      refine FinH.by (fun tt_ kk_ => XS.iconst X142.here hx rfl (hb hby at_176) (XS.goto X142.here hx rfl (pc0 := 177) (pc' := 181) rfl (hb hby at_177) (by decide) (by decide) (XS.istore X142.here hx rfl (hb hby at_181) rfl (l' := #[.val (.int p1), .val (.int p2), .val (.int p3), .val (.int p4), .val (.int p5), .val (.int p6), .val (.int 3), .val (.int q0), .val (.int q1), .val (.int q2), .val (.int q3), .val (.int q4), .val (.ref y102), .val (.ref y112), .val (.int 1)]) rfl (XS.iload X142.here hx rfl (hb hby at_183) rfl kk_)))) ?_
      show FinH _ _ _ _ _ _ _ _ _ (T142.setTop (mkF m 185 #[.val (.int p1), .val (.int p2), .val (.int p3), .val (.int p4), .val (.int p5), .val (.int p6), .val (.int 3), .val (.int q0), .val (.int q1), .val (.int q2), .val (.int q3), .val (.int q4), .val (.ref y102), .val (.ref y112), .val (.int 1)] [(.int 1)]))
      refine FinH.by (fun tt_ kk_ => XS.ifNo X142.here hx rfl (hb hby at_185) rfl ((if0 _ _).trans (feq (by decide : ¬ (1 : Int32) = (0 : Int32))).1) kk_) ?_
      refine FinH.by (fun tt_ kk_ => XS.iload X142.here hx rfl (hb hby at_188) rfl (XS.iconst X142.here hx rfl (hb hby at_190) kk_)) ?_
      show FinH _ _ _ _ _ _ _ _ _ (T142.setTop (mkF m 191 #[.val (.int p1), .val (.int p2), .val (.int p3), .val (.int p4), .val (.int p5), .val (.int p6), .val (.int 3), .val (.int q0), .val (.int q1), .val (.int q2), .val (.int q3), .val (.int q4), .val (.ref y102), .val (.ref y112), .val (.int 1)] [(.int 4), (.int 3)]))
      refine FinH.by (fun tt_ kk_ => XS.icmpYes X142.here hx rfl (pc0 := 191) (pc' := 208) rfl (hb hby at_191) rfl (tlt (by decide : (3 : Int32) < (4 : Int32))).1 (by decide) (by decide) kk_) ?_
      refine FinH.by (fun tt_ kk_ => XS.iconst X142.here hx rfl (hb hby at_208) (XS.goto X142.here hx rfl (pc0 := 209) (pc' := 213) rfl (hb hby at_209) (by decide) (by decide) (XS.istore X142.here hx rfl (hb hby at_213) rfl (l' := #[.val (.int p1), .val (.int p2), .val (.int p3), .val (.int p4), .val (.int p5), .val (.int p6), .val (.int 3), .val (.int q0), .val (.int q1), .val (.int q2), .val (.int q3), .val (.int q4), .val (.ref y102), .val (.ref y112), .val (.int 1)]) rfl (XS.iload X142.here hx rfl (hb hby at_215) rfl kk_)))) ?_
      show FinH _ _ _ _ _ _ _ _ _ (T142.setTop (mkF m 217 #[.val (.int p1), .val (.int p2), .val (.int p3), .val (.int p4), .val (.int p5), .val (.int p6), .val (.int 3), .val (.int q0), .val (.int q1), .val (.int q2), .val (.int q3), .val (.int q4), .val (.ref y102), .val (.ref y112), .val (.int 1)] [(.int 1)]))
      refine FinH.by (fun tt_ kk_ => XS.ifNo X142.here hx rfl (hb hby at_217) rfl ((if0 _ _).trans (feq (by decide : ¬ (1 : Int32) = (0 : Int32))).1) kk_) ?_
      refine FinH.by (fun tt_ kk_ => XS.iload X142.here hx rfl (hb hby at_220) rfl (XS.iconst X142.here hx rfl (hb hby at_222) kk_)) ?_
      show FinH _ _ _ _ _ _ _ _ _ (T142.setTop (mkF m 223 #[.val (.int p1), .val (.int p2), .val (.int p3), .val (.int p4), .val (.int p5), .val (.int p6), .val (.int 3), .val (.int q0), .val (.int q1), .val (.int q2), .val (.int q3), .val (.int q4), .val (.ref y102), .val (.ref y112), .val (.int 1)] [(.int 5), (.int 3)]))
      refine FinH.by (fun tt_ kk_ => XS.icmpYes X142.here hx rfl (pc0 := 223) (pc' := 240) rfl (hb hby at_223) rfl (tlt (by decide : (3 : Int32) < (5 : Int32))).1 (by decide) (by decide) kk_) ?_
      refine FinH.by (fun tt_ kk_ => XS.iconst X142.here hx rfl (hb hby at_240) (XS.goto X142.here hx rfl (pc0 := 241) (pc' := 245) rfl (hb hby at_241) (by decide) (by decide) (XS.istore X142.here hx rfl (hb hby at_245) rfl (l' := #[.val (.int p1), .val (.int p2), .val (.int p3), .val (.int p4), .val (.int p5), .val (.int p6), .val (.int 3), .val (.int q0), .val (.int q1), .val (.int q2), .val (.int q3), .val (.int q4), .val (.ref y102), .val (.ref y112), .val (.int 1)]) rfl (XS.iload X142.here hx rfl (hb hby at_247) rfl kk_)))) ?_
      show FinH _ _ _ _ _ _ _ _ _ (T142.setTop (mkF m 249 #[.val (.int p1), .val (.int p2), .val (.int p3), .val (.int p4), .val (.int p5), .val (.int p6), .val (.int 3), .val (.int q0), .val (.int q1), .val (.int q2), .val (.int q3), .val (.int q4), .val (.ref y102), .val (.ref y112), .val (.int 1)] [(.int 1)]))
      exact FinH.ret (v := some (.int (nar .boolean (1 : Int32)))) X142 hS111w (by rw [e142]; exact (Nat.le_refl _)) (fun h => by rw [Bd.returns] at h; cases h) Bd.notSynchronized (by rw [e142]; exact ⟨rfl, N142_⟩) (by rw [hh, e142]; exact ch118.trans (CHv.at X142 hZ111 own_EW ch118.1)) (by decide) (by decide) (fun fs hr => retN X142 hx (t := .boolean) Bd.returns (by simp) (hb hby at_249) hr)
    · have hcd : StrChars.Road.CodA ([own_g (nar .char q0), own_g (nar .char q1), own_g (nar .char q2), own_g (nar .char q3)] : List Int32) cy117 Ny115 vy116 := by have q := p111_5; rw [own_mk4] at q; exact q
      have O143 : Old Z n0 T111.heap := (O109.keep p111_0 all0)
      have z144 : n0 ≤ T111.heap.size := Nat.le_trans z110 p111_0.1
      obtain ⟨cq145, kq145, qa145, qb145, qc145⟩ := isOf hZ111 rfl p111_1
      obtain ⟨v145, _, ⟨T145, L145, k145, n145⟩, -, X145, ⟨Lc145, hQ145, l145, y145, z145⟩, st145⟩ := X111w.virtualBack hx (y := y_29) (z := y_29) hown111 (mvT hZ111 (w_ hw 52 rfl)) (mvT hZ111 (w_ hw 53 rfl)) (notFace_of_selects (args := #[]) (mvT hZ111 (w_ hw 55 rfl))) (mvT hZ111 (w_ hw 55 rfl)) (mvT hZ111 (w_ hw 54 rfl)) (by decide) (backOf (W := 0) (rm_sle l Z a0 hw [] y112 ty113 ky114 Ny115 (vy116 : List Value) ([own_g (nar .char q0), own_g (nar .char q1), own_g (nar .char q2), own_g (nar .char q3)] : List Int32) cy117 G1 T111.heap n0 z144 hcd (Nat.le_of_ble_eq_true rfl) p111_1 p111_2 p111_3 p111_4 S1 P1 O143) hZ111 (w_ hw 56 rfl) (w_ hw 8 rfl) (by decide) (by decide)) qa145 qc145 (g := (mkF m 72 #[.val (.int p1), .val (.int p2), .val (.int p3), .val (.int p4), .val (.int p5), .val (.int p6), .val (.int 4), .val (.int q0), .val (.int q1), .val (.int q2), .val (.int q3), .val (.int q4), .val (.ref y102), .val (.ref y112), .unset] [(.ref y112)])) rfl (by rw [hml]; rfl) (Steps.refl _) (argsL := []) (rest := []) (lenOf pd_549 rfl) rfl (by show 2 * 0 + _ ≤ _; exact Nat.le_of_eq rfl) (hb hby at_72) (fun _ _ => ⟨rfl, rfl, (by decide : 12 + 0 ≤ _), (by decide : 48 + 0 ≤ _)⟩)
      dsimp only [Pt.U, Pt.locs, Pt.cells, Pt.slots] at X145 l145 y145 z145 st145 hQ145
      subst l145 y145 z145
      obtain ⟨rfl, Nq145, e145_⟩ := hQ145
      have N145_ := Fr.app N111_ Nq145
      refine FinH.byS st145 ?_
      have e145 := e145_
      refine FinH.by (fun tt_ kk_ => XS.iload X145.here hx rfl (hb hby at_75) rfl kk_) ?_
      show FinH _ _ _ _ _ _ _ _ _ (T145.setTop (mkF m 77 #[.val (.int p1), .val (.int p2), .val (.int p3), .val (.int p4), .val (.int p5), .val (.int p6), .val (.int 4), .val (.int q0), .val (.int q1), .val (.int q2), .val (.int q3), .val (.int q4), .val (.ref y102), .val (.ref y112), .unset] [(.int 4), (.int (Int32.ofNat ([own_g (nar .char q0), own_g (nar .char q1), own_g (nar .char q2), own_g (nar .char q3)] : List Int32).length))]))
      refine FinH.by (fun tt_ kk_ => XS.icmpNo X145.here hx rfl (hb hby at_77) rfl (teq (rfl : (Int32.ofNat ([own_g (nar .char q0), own_g (nar .char q1), own_g (nar .char q2), own_g (nar .char q3)] : List Int32).length) = (4 : Int32))).2 kk_) ?_
      refine FinH.by (fun tt_ kk_ => XS.iconst X145.here hx rfl (hb hby at_80) (XS.goto X145.here hx rfl (pc0 := 81) (pc' := 85) rfl (hb hby at_81) (by decide) (by decide) (XS.istore X145.here hx rfl (hb hby at_85) rfl (l' := #[.val (.int p1), .val (.int p2), .val (.int p3), .val (.int p4), .val (.int p5), .val (.int p6), .val (.int 4), .val (.int q0), .val (.int q1), .val (.int q2), .val (.int q3), .val (.int q4), .val (.ref y102), .val (.ref y112), .val (.int 1)]) rfl (XS.iload X145.here hx rfl (hb hby at_87) rfl kk_)))) ?_
      show FinH _ _ _ _ _ _ _ _ _ (T145.setTop (mkF m 89 #[.val (.int p1), .val (.int p2), .val (.int p3), .val (.int p4), .val (.int p5), .val (.int p6), .val (.int 4), .val (.int q0), .val (.int q1), .val (.int q2), .val (.int q3), .val (.int q4), .val (.ref y102), .val (.ref y112), .val (.int 1)] [(.int 1)]))
      refine FinH.by (fun tt_ kk_ => XS.ifNo X145.here hx rfl (hb hby at_89) rfl ((if0 _ _).trans (feq (by decide : ¬ (1 : Int32) = (0 : Int32))).1) kk_) ?_
      refine FinH.by (fun tt_ kk_ => XS.iload X145.here hx rfl (hb hby at_92) rfl (XS.iconst X145.here hx rfl (hb hby at_94) kk_)) ?_
      show FinH _ _ _ _ _ _ _ _ _ (T145.setTop (mkF m 95 #[.val (.int p1), .val (.int p2), .val (.int p3), .val (.int p4), .val (.int p5), .val (.int p6), .val (.int 4), .val (.int q0), .val (.int q1), .val (.int q2), .val (.int q3), .val (.int q4), .val (.ref y102), .val (.ref y112), .val (.int 1)] [(.int 1), (.int 4)]))
      refine FinH.by (fun tt_ kk_ => XS.icmpNo X145.here hx rfl (hb hby at_95) rfl (flt (by decide : ¬ (4 : Int32) < (1 : Int32))).1 kk_) ?_
      refine FinH.by (fun tt_ kk_ => XS.aload X145.here hx rfl (hb hby at_98) rfl rfl (XS.iconst X145.here hx rfl (hb hby at_100) kk_)) ?_
      obtain ⟨cq146, kq146, qa146, qb146, qc146⟩ := isOf hZ111 e145 p111_1
      obtain ⟨v146, _, ⟨T146, L146, k146, n146⟩, -, X146, ⟨Lc146, hQ146, l146, y146, z146⟩, st146⟩ := X145.virtualBack hx (y := y_30) (z := y_30) hown111 (mvT hZ111 (w_ hw 75 rfl)) (mvT hZ111 (w_ hw 76 rfl)) (notFace_of_selects (args := #[]) (mvT hZ111 (w_ hw 78 rfl))) (mvT hZ111 (w_ hw 78 rfl)) (mvT hZ111 (w_ hw 77 rfl)) (by decide) (backOf (W := 0) (rm_chA l Z a0 hw [] y112 ty113 ky114 Ny115 (vy116 : List Value) ([own_g (nar .char q0), own_g (nar .char q1), own_g (nar .char q2), own_g (nar .char q3)] : List Int32) cy117 0 (0 : Int32) G1 G9 T111.heap n0 z144 hcd (own_cons (own_nb _) (own_cons (own_nb _) (own_cons (own_nb _) (own_cons (own_nb _) own_nil)))) (Nat.le_of_ble_eq_true rfl) (Nat.le_of_ble_eq_true rfl) rfl p111_1 p111_2 p111_3 p111_4 S1 P1 S6 S7 S8 S9 r9 O143) hZ111 (w_ hw 79 rfl) (w_ hw 8 rfl) (by decide) (by decide)) qa146 qc146 (g := (mkF m 101 #[.val (.int p1), .val (.int p2), .val (.int p3), .val (.int p4), .val (.int p5), .val (.int p6), .val (.int 4), .val (.int q0), .val (.int q1), .val (.int q2), .val (.int q3), .val (.int q4), .val (.ref y102), .val (.ref y112), .val (.int 1)] [(.int 0), (.ref y112)])) rfl (by rw [hml]; rfl) (Steps.refl _) (argsL := [(.int 0)]) (rest := []) (lenOf pd_550 rfl) rfl (by show 2 * 0 + _ ≤ _; exact Nat.le_of_eq rfl) (hb hby at_101) (fun _ _ => ⟨rfl, e145, (by decide : 12 + 0 ≤ _), (by decide : 48 + 0 ≤ _)⟩)
      dsimp only [Pt.U, Pt.locs, Pt.cells, Pt.slots] at X146 l146 y146 z146 st146 hQ146
      subst l146 y146 z146
      obtain ⟨rfl, Nq146, e146_⟩ := hQ146
      have N146_ := Fr.app N145_ Nq146
      refine FinH.byS st146 ?_
      have e146 := e146_
      refine FinH.by (fun tt_ kk_ => XS.iload X146.here hx rfl (hb hby at_104) rfl kk_) ?_
      obtain ⟨v147, _, ⟨T147, L147, k147, n147⟩, -, X147, ⟨Lc147, hQ147, l147, y147, z147⟩, st147⟩ := Jvm.LawKit.callS X146 hx (y := y_31) hown111 (mvT hZ111 (w_ hw 91 rfl)) (mvT hZ111 (w_ hw 92 rfl)) (mvT hZ111 (w_ hw 4 rfl)) (mvT hZ111 (w_ hw 93 rfl)) (by decide) (backOf (W := 1) (rm_low l Z a0 hw [] q0 T111.heap n0 z144 ) hZ111 (w_ hw 93 rfl) (w_ hw 4 rfl) (by decide) (by decide)) (g := (mkF m 106 #[.val (.int p1), .val (.int p2), .val (.int p3), .val (.int p4), .val (.int p5), .val (.int p6), .val (.int 4), .val (.int q0), .val (.int q1), .val (.int q2), .val (.int q3), .val (.int q4), .val (.ref y102), .val (.ref y112), .val (.int 1)] [(.int q0), (.int (([own_g (nar .char q0), own_g (nar .char q1), own_g (nar .char q2), own_g (nar .char q3)] : List Int32).getD 0 0))])) rfl (by rw [hml]; rfl) (argsL := [(.int q0)]) (rest := [(.int (([own_g (nar .char q0), own_g (nar .char q1), own_g (nar .char q2), own_g (nar .char q3)] : List Int32).getD 0 0))]) (lenOf pd_542 rfl) rfl (by show 2 * 0 + _ ≤ _; exact Nat.le_of_eq rfl) (hb hby at_106) (fun _ _ => ⟨rfl, e146, (by decide : 12 + 0 ≤ _), (by decide : 48 + 0 ≤ _)⟩)
      dsimp only [Pt.U, Pt.locs, Pt.cells, Pt.slots] at X147 l147 y147 z147 st147 hQ147
      subst l147 y147 z147
      obtain ⟨rfl, Nq147, e147_⟩ := hQ147
      have N147_ := Fr.app N146_ Nq147
      refine FinH.by (fun tt_ kk_ => st147 tt_ kk_) ?_
      have e147 := e147_
      show FinH _ _ _ _ _ _ _ _ _ (T147.setTop (mkF m 109 #[.val (.int p1), .val (.int p2), .val (.int p3), .val (.int p4), .val (.int p5), .val (.int p6), .val (.int 4), .val (.int q0), .val (.int q1), .val (.int q2), .val (.int q3), .val (.int q4), .val (.ref y102), .val (.ref y112), .val (.int 1)] [(.int (nar .char (own_low q0))), (.int (([own_g (nar .char q0), own_g (nar .char q1), own_g (nar .char q2), own_g (nar .char q3)] : List Int32).getD 0 0))]))
      refine FinH.by (fun tt_ kk_ => XS.icmpNo X147.here hx rfl (hb hby at_109) rfl (teq (by show own_g (nar .char q0) = nar .char (own_low q0); unfold own_g; rw [hq0, own_nn] : (([own_g (nar .char q0), own_g (nar .char q1), own_g (nar .char q2), own_g (nar .char q3)] : List Int32).getD 0 0) = (nar .char (own_low q0)))).2 kk_) ?_
      refine FinH.by (fun tt_ kk_ => XS.iconst X147.here hx rfl (hb hby at_112) (XS.goto X147.here hx rfl (pc0 := 113) (pc' := 117) rfl (hb hby at_113) (by decide) (by decide) (XS.istore X147.here hx rfl (hb hby at_117) rfl (l' := #[.val (.int p1), .val (.int p2), .val (.int p3), .val (.int p4), .val (.int p5), .val (.int p6), .val (.int 4), .val (.int q0), .val (.int q1), .val (.int q2), .val (.int q3), .val (.int q4), .val (.ref y102), .val (.ref y112), .val (.int 1)]) rfl (XS.iload X147.here hx rfl (hb hby at_119) rfl kk_)))) ?_
      show FinH _ _ _ _ _ _ _ _ _ (T147.setTop (mkF m 121 #[.val (.int p1), .val (.int p2), .val (.int p3), .val (.int p4), .val (.int p5), .val (.int p6), .val (.int 4), .val (.int q0), .val (.int q1), .val (.int q2), .val (.int q3), .val (.int q4), .val (.ref y102), .val (.ref y112), .val (.int 1)] [(.int 1)]))
      refine FinH.by (fun tt_ kk_ => XS.ifNo X147.here hx rfl (hb hby at_121) rfl ((if0 _ _).trans (feq (by decide : ¬ (1 : Int32) = (0 : Int32))).1) kk_) ?_
      refine FinH.by (fun tt_ kk_ => XS.iload X147.here hx rfl (hb hby at_124) rfl (XS.iconst X147.here hx rfl (hb hby at_126) kk_)) ?_
      show FinH _ _ _ _ _ _ _ _ _ (T147.setTop (mkF m 127 #[.val (.int p1), .val (.int p2), .val (.int p3), .val (.int p4), .val (.int p5), .val (.int p6), .val (.int 4), .val (.int q0), .val (.int q1), .val (.int q2), .val (.int q3), .val (.int q4), .val (.ref y102), .val (.ref y112), .val (.int 1)] [(.int 2), (.int 4)]))
      refine FinH.by (fun tt_ kk_ => XS.icmpNo X147.here hx rfl (hb hby at_127) rfl (flt (by decide : ¬ (4 : Int32) < (2 : Int32))).1 kk_) ?_
      refine FinH.by (fun tt_ kk_ => XS.aload X147.here hx rfl (hb hby at_130) rfl rfl (XS.iconst X147.here hx rfl (hb hby at_132) kk_)) ?_
      obtain ⟨cq148, kq148, qa148, qb148, qc148⟩ := isOf hZ111 e147 p111_1
      obtain ⟨v148, _, ⟨T148, L148, k148, n148⟩, -, X148, ⟨Lc148, hQ148, l148, y148, z148⟩, st148⟩ := X147.virtualBack hx (y := y_30) (z := y_30) hown111 (mvT hZ111 (w_ hw 75 rfl)) (mvT hZ111 (w_ hw 76 rfl)) (notFace_of_selects (args := #[]) (mvT hZ111 (w_ hw 78 rfl))) (mvT hZ111 (w_ hw 78 rfl)) (mvT hZ111 (w_ hw 77 rfl)) (by decide) (backOf (W := 0) (rm_chA l Z a0 hw [] y112 ty113 ky114 Ny115 (vy116 : List Value) ([own_g (nar .char q0), own_g (nar .char q1), own_g (nar .char q2), own_g (nar .char q3)] : List Int32) cy117 1 (1 : Int32) G1 G9 T111.heap n0 z144 hcd (own_cons (own_nb _) (own_cons (own_nb _) (own_cons (own_nb _) (own_cons (own_nb _) own_nil)))) (Nat.le_of_ble_eq_true rfl) (Nat.le_of_ble_eq_true rfl) rfl p111_1 p111_2 p111_3 p111_4 S1 P1 S6 S7 S8 S9 r9 O143) hZ111 (w_ hw 79 rfl) (w_ hw 8 rfl) (by decide) (by decide)) qa148 qc148 (g := (mkF m 133 #[.val (.int p1), .val (.int p2), .val (.int p3), .val (.int p4), .val (.int p5), .val (.int p6), .val (.int 4), .val (.int q0), .val (.int q1), .val (.int q2), .val (.int q3), .val (.int q4), .val (.ref y102), .val (.ref y112), .val (.int 1)] [(.int 1), (.ref y112)])) rfl (by rw [hml]; rfl) (Steps.refl _) (argsL := [(.int 1)]) (rest := []) (lenOf pd_550 rfl) rfl (by show 2 * 0 + _ ≤ _; exact Nat.le_of_eq rfl) (hb hby at_133) (fun _ _ => ⟨rfl, e147, (by decide : 12 + 0 ≤ _), (by decide : 48 + 0 ≤ _)⟩)
      dsimp only [Pt.U, Pt.locs, Pt.cells, Pt.slots] at X148 l148 y148 z148 st148 hQ148
      subst l148 y148 z148
      obtain ⟨rfl, Nq148, e148_⟩ := hQ148
      have N148_ := Fr.app N147_ Nq148
      refine FinH.byS st148 ?_
      have e148 := e148_
      refine FinH.by (fun tt_ kk_ => XS.iload X148.here hx rfl (hb hby at_136) rfl kk_) ?_
      obtain ⟨v149, _, ⟨T149, L149, k149, n149⟩, -, X149, ⟨Lc149, hQ149, l149, y149, z149⟩, st149⟩ := Jvm.LawKit.callS X148 hx (y := y_31) hown111 (mvT hZ111 (w_ hw 91 rfl)) (mvT hZ111 (w_ hw 92 rfl)) (mvT hZ111 (w_ hw 4 rfl)) (mvT hZ111 (w_ hw 93 rfl)) (by decide) (backOf (W := 1) (rm_low l Z a0 hw [] q1 T111.heap n0 z144 ) hZ111 (w_ hw 93 rfl) (w_ hw 4 rfl) (by decide) (by decide)) (g := (mkF m 138 #[.val (.int p1), .val (.int p2), .val (.int p3), .val (.int p4), .val (.int p5), .val (.int p6), .val (.int 4), .val (.int q0), .val (.int q1), .val (.int q2), .val (.int q3), .val (.int q4), .val (.ref y102), .val (.ref y112), .val (.int 1)] [(.int q1), (.int (([own_g (nar .char q0), own_g (nar .char q1), own_g (nar .char q2), own_g (nar .char q3)] : List Int32).getD 1 0))])) rfl (by rw [hml]; rfl) (argsL := [(.int q1)]) (rest := [(.int (([own_g (nar .char q0), own_g (nar .char q1), own_g (nar .char q2), own_g (nar .char q3)] : List Int32).getD 1 0))]) (lenOf pd_542 rfl) rfl (by show 2 * 0 + _ ≤ _; exact Nat.le_of_eq rfl) (hb hby at_138) (fun _ _ => ⟨rfl, e148, (by decide : 12 + 0 ≤ _), (by decide : 48 + 0 ≤ _)⟩)
      dsimp only [Pt.U, Pt.locs, Pt.cells, Pt.slots] at X149 l149 y149 z149 st149 hQ149
      subst l149 y149 z149
      obtain ⟨rfl, Nq149, e149_⟩ := hQ149
      have N149_ := Fr.app N148_ Nq149
      refine FinH.by (fun tt_ kk_ => st149 tt_ kk_) ?_
      have e149 := e149_
      show FinH _ _ _ _ _ _ _ _ _ (T149.setTop (mkF m 141 #[.val (.int p1), .val (.int p2), .val (.int p3), .val (.int p4), .val (.int p5), .val (.int p6), .val (.int 4), .val (.int q0), .val (.int q1), .val (.int q2), .val (.int q3), .val (.int q4), .val (.ref y102), .val (.ref y112), .val (.int 1)] [(.int (nar .char (own_low q1))), (.int (([own_g (nar .char q0), own_g (nar .char q1), own_g (nar .char q2), own_g (nar .char q3)] : List Int32).getD 1 0))]))
      refine FinH.by (fun tt_ kk_ => XS.icmpNo X149.here hx rfl (hb hby at_141) rfl (teq (by show own_g (nar .char q1) = nar .char (own_low q1); unfold own_g; rw [hq1, own_nn] : (([own_g (nar .char q0), own_g (nar .char q1), own_g (nar .char q2), own_g (nar .char q3)] : List Int32).getD 1 0) = (nar .char (own_low q1)))).2 kk_) ?_
      refine FinH.by (fun tt_ kk_ => XS.iconst X149.here hx rfl (hb hby at_144) (XS.goto X149.here hx rfl (pc0 := 145) (pc' := 149) rfl (hb hby at_145) (by decide) (by decide) (XS.istore X149.here hx rfl (hb hby at_149) rfl (l' := #[.val (.int p1), .val (.int p2), .val (.int p3), .val (.int p4), .val (.int p5), .val (.int p6), .val (.int 4), .val (.int q0), .val (.int q1), .val (.int q2), .val (.int q3), .val (.int q4), .val (.ref y102), .val (.ref y112), .val (.int 1)]) rfl (XS.iload X149.here hx rfl (hb hby at_151) rfl kk_)))) ?_
      show FinH _ _ _ _ _ _ _ _ _ (T149.setTop (mkF m 153 #[.val (.int p1), .val (.int p2), .val (.int p3), .val (.int p4), .val (.int p5), .val (.int p6), .val (.int 4), .val (.int q0), .val (.int q1), .val (.int q2), .val (.int q3), .val (.int q4), .val (.ref y102), .val (.ref y112), .val (.int 1)] [(.int 1)]))
      refine FinH.by (fun tt_ kk_ => XS.ifNo X149.here hx rfl (hb hby at_153) rfl ((if0 _ _).trans (feq (by decide : ¬ (1 : Int32) = (0 : Int32))).1) kk_) ?_
      refine FinH.by (fun tt_ kk_ => XS.iload X149.here hx rfl (hb hby at_156) rfl (XS.iconst X149.here hx rfl (hb hby at_158) kk_)) ?_
      show FinH _ _ _ _ _ _ _ _ _ (T149.setTop (mkF m 159 #[.val (.int p1), .val (.int p2), .val (.int p3), .val (.int p4), .val (.int p5), .val (.int p6), .val (.int 4), .val (.int q0), .val (.int q1), .val (.int q2), .val (.int q3), .val (.int q4), .val (.ref y102), .val (.ref y112), .val (.int 1)] [(.int 3), (.int 4)]))
      refine FinH.by (fun tt_ kk_ => XS.icmpNo X149.here hx rfl (hb hby at_159) rfl (flt (by decide : ¬ (4 : Int32) < (3 : Int32))).1 kk_) ?_
      refine FinH.by (fun tt_ kk_ => XS.aload X149.here hx rfl (hb hby at_162) rfl rfl (XS.iconst X149.here hx rfl (hb hby at_164) kk_)) ?_
      obtain ⟨cq150, kq150, qa150, qb150, qc150⟩ := isOf hZ111 e149 p111_1
      obtain ⟨v150, _, ⟨T150, L150, k150, n150⟩, -, X150, ⟨Lc150, hQ150, l150, y150, z150⟩, st150⟩ := X149.virtualBack hx (y := y_30) (z := y_30) hown111 (mvT hZ111 (w_ hw 75 rfl)) (mvT hZ111 (w_ hw 76 rfl)) (notFace_of_selects (args := #[]) (mvT hZ111 (w_ hw 78 rfl))) (mvT hZ111 (w_ hw 78 rfl)) (mvT hZ111 (w_ hw 77 rfl)) (by decide) (backOf (W := 0) (rm_chA l Z a0 hw [] y112 ty113 ky114 Ny115 (vy116 : List Value) ([own_g (nar .char q0), own_g (nar .char q1), own_g (nar .char q2), own_g (nar .char q3)] : List Int32) cy117 2 (2 : Int32) G1 G9 T111.heap n0 z144 hcd (own_cons (own_nb _) (own_cons (own_nb _) (own_cons (own_nb _) (own_cons (own_nb _) own_nil)))) (Nat.le_of_ble_eq_true rfl) (Nat.le_of_ble_eq_true rfl) rfl p111_1 p111_2 p111_3 p111_4 S1 P1 S6 S7 S8 S9 r9 O143) hZ111 (w_ hw 79 rfl) (w_ hw 8 rfl) (by decide) (by decide)) qa150 qc150 (g := (mkF m 165 #[.val (.int p1), .val (.int p2), .val (.int p3), .val (.int p4), .val (.int p5), .val (.int p6), .val (.int 4), .val (.int q0), .val (.int q1), .val (.int q2), .val (.int q3), .val (.int q4), .val (.ref y102), .val (.ref y112), .val (.int 1)] [(.int 2), (.ref y112)])) rfl (by rw [hml]; rfl) (Steps.refl _) (argsL := [(.int 2)]) (rest := []) (lenOf pd_550 rfl) rfl (by show 2 * 0 + _ ≤ _; exact Nat.le_of_eq rfl) (hb hby at_165) (fun _ _ => ⟨rfl, e149, (by decide : 12 + 0 ≤ _), (by decide : 48 + 0 ≤ _)⟩)
      dsimp only [Pt.U, Pt.locs, Pt.cells, Pt.slots] at X150 l150 y150 z150 st150 hQ150
      subst l150 y150 z150
      obtain ⟨rfl, Nq150, e150_⟩ := hQ150
      have N150_ := Fr.app N149_ Nq150
      refine FinH.byS st150 ?_
      have e150 := e150_
      refine FinH.by (fun tt_ kk_ => XS.iload X150.here hx rfl (hb hby at_168) rfl kk_) ?_
      obtain ⟨v151, _, ⟨T151, L151, k151, n151⟩, -, X151, ⟨Lc151, hQ151, l151, y151, z151⟩, st151⟩ := Jvm.LawKit.callS X150 hx (y := y_31) hown111 (mvT hZ111 (w_ hw 91 rfl)) (mvT hZ111 (w_ hw 92 rfl)) (mvT hZ111 (w_ hw 4 rfl)) (mvT hZ111 (w_ hw 93 rfl)) (by decide) (backOf (W := 1) (rm_low l Z a0 hw [] q2 T111.heap n0 z144 ) hZ111 (w_ hw 93 rfl) (w_ hw 4 rfl) (by decide) (by decide)) (g := (mkF m 170 #[.val (.int p1), .val (.int p2), .val (.int p3), .val (.int p4), .val (.int p5), .val (.int p6), .val (.int 4), .val (.int q0), .val (.int q1), .val (.int q2), .val (.int q3), .val (.int q4), .val (.ref y102), .val (.ref y112), .val (.int 1)] [(.int q2), (.int (([own_g (nar .char q0), own_g (nar .char q1), own_g (nar .char q2), own_g (nar .char q3)] : List Int32).getD 2 0))])) rfl (by rw [hml]; rfl) (argsL := [(.int q2)]) (rest := [(.int (([own_g (nar .char q0), own_g (nar .char q1), own_g (nar .char q2), own_g (nar .char q3)] : List Int32).getD 2 0))]) (lenOf pd_542 rfl) rfl (by show 2 * 0 + _ ≤ _; exact Nat.le_of_eq rfl) (hb hby at_170) (fun _ _ => ⟨rfl, e150, (by decide : 12 + 0 ≤ _), (by decide : 48 + 0 ≤ _)⟩)
      dsimp only [Pt.U, Pt.locs, Pt.cells, Pt.slots] at X151 l151 y151 z151 st151 hQ151
      subst l151 y151 z151
      obtain ⟨rfl, Nq151, e151_⟩ := hQ151
      have N151_ := Fr.app N150_ Nq151
      refine FinH.by (fun tt_ kk_ => st151 tt_ kk_) ?_
      have e151 := e151_
      show FinH _ _ _ _ _ _ _ _ _ (T151.setTop (mkF m 173 #[.val (.int p1), .val (.int p2), .val (.int p3), .val (.int p4), .val (.int p5), .val (.int p6), .val (.int 4), .val (.int q0), .val (.int q1), .val (.int q2), .val (.int q3), .val (.int q4), .val (.ref y102), .val (.ref y112), .val (.int 1)] [(.int (nar .char (own_low q2))), (.int (([own_g (nar .char q0), own_g (nar .char q1), own_g (nar .char q2), own_g (nar .char q3)] : List Int32).getD 2 0))]))
      refine FinH.by (fun tt_ kk_ => XS.icmpNo X151.here hx rfl (hb hby at_173) rfl (teq (by show own_g (nar .char q2) = nar .char (own_low q2); unfold own_g; rw [hq2, own_nn] : (([own_g (nar .char q0), own_g (nar .char q1), own_g (nar .char q2), own_g (nar .char q3)] : List Int32).getD 2 0) = (nar .char (own_low q2)))).2 kk_) ?_
      refine FinH.by (fun tt_ kk_ => XS.iconst X151.here hx rfl (hb hby at_176) (XS.goto X151.here hx rfl (pc0 := 177) (pc' := 181) rfl (hb hby at_177) (by decide) (by decide) (XS.istore X151.here hx rfl (hb hby at_181) rfl (l' := #[.val (.int p1), .val (.int p2), .val (.int p3), .val (.int p4), .val (.int p5), .val (.int p6), .val (.int 4), .val (.int q0), .val (.int q1), .val (.int q2), .val (.int q3), .val (.int q4), .val (.ref y102), .val (.ref y112), .val (.int 1)]) rfl (XS.iload X151.here hx rfl (hb hby at_183) rfl kk_)))) ?_
      show FinH _ _ _ _ _ _ _ _ _ (T151.setTop (mkF m 185 #[.val (.int p1), .val (.int p2), .val (.int p3), .val (.int p4), .val (.int p5), .val (.int p6), .val (.int 4), .val (.int q0), .val (.int q1), .val (.int q2), .val (.int q3), .val (.int q4), .val (.ref y102), .val (.ref y112), .val (.int 1)] [(.int 1)]))
      refine FinH.by (fun tt_ kk_ => XS.ifNo X151.here hx rfl (hb hby at_185) rfl ((if0 _ _).trans (feq (by decide : ¬ (1 : Int32) = (0 : Int32))).1) kk_) ?_
      refine FinH.by (fun tt_ kk_ => XS.iload X151.here hx rfl (hb hby at_188) rfl (XS.iconst X151.here hx rfl (hb hby at_190) kk_)) ?_
      show FinH _ _ _ _ _ _ _ _ _ (T151.setTop (mkF m 191 #[.val (.int p1), .val (.int p2), .val (.int p3), .val (.int p4), .val (.int p5), .val (.int p6), .val (.int 4), .val (.int q0), .val (.int q1), .val (.int q2), .val (.int q3), .val (.int q4), .val (.ref y102), .val (.ref y112), .val (.int 1)] [(.int 4), (.int 4)]))
      refine FinH.by (fun tt_ kk_ => XS.icmpNo X151.here hx rfl (hb hby at_191) rfl (flt (by decide : ¬ (4 : Int32) < (4 : Int32))).1 kk_) ?_
      refine FinH.by (fun tt_ kk_ => XS.aload X151.here hx rfl (hb hby at_194) rfl rfl (XS.iconst X151.here hx rfl (hb hby at_196) kk_)) ?_
      obtain ⟨cq152, kq152, qa152, qb152, qc152⟩ := isOf hZ111 e151 p111_1
      obtain ⟨v152, _, ⟨T152, L152, k152, n152⟩, -, X152, ⟨Lc152, hQ152, l152, y152, z152⟩, st152⟩ := X151.virtualBack hx (y := y_30) (z := y_30) hown111 (mvT hZ111 (w_ hw 75 rfl)) (mvT hZ111 (w_ hw 76 rfl)) (notFace_of_selects (args := #[]) (mvT hZ111 (w_ hw 78 rfl))) (mvT hZ111 (w_ hw 78 rfl)) (mvT hZ111 (w_ hw 77 rfl)) (by decide) (backOf (W := 0) (rm_chA l Z a0 hw [] y112 ty113 ky114 Ny115 (vy116 : List Value) ([own_g (nar .char q0), own_g (nar .char q1), own_g (nar .char q2), own_g (nar .char q3)] : List Int32) cy117 3 (3 : Int32) G1 G9 T111.heap n0 z144 hcd (own_cons (own_nb _) (own_cons (own_nb _) (own_cons (own_nb _) (own_cons (own_nb _) own_nil)))) (Nat.le_of_ble_eq_true rfl) (Nat.le_of_ble_eq_true rfl) rfl p111_1 p111_2 p111_3 p111_4 S1 P1 S6 S7 S8 S9 r9 O143) hZ111 (w_ hw 79 rfl) (w_ hw 8 rfl) (by decide) (by decide)) qa152 qc152 (g := (mkF m 197 #[.val (.int p1), .val (.int p2), .val (.int p3), .val (.int p4), .val (.int p5), .val (.int p6), .val (.int 4), .val (.int q0), .val (.int q1), .val (.int q2), .val (.int q3), .val (.int q4), .val (.ref y102), .val (.ref y112), .val (.int 1)] [(.int 3), (.ref y112)])) rfl (by rw [hml]; rfl) (Steps.refl _) (argsL := [(.int 3)]) (rest := []) (lenOf pd_550 rfl) rfl (by show 2 * 0 + _ ≤ _; exact Nat.le_of_eq rfl) (hb hby at_197) (fun _ _ => ⟨rfl, e151, (by decide : 12 + 0 ≤ _), (by decide : 48 + 0 ≤ _)⟩)
      dsimp only [Pt.U, Pt.locs, Pt.cells, Pt.slots] at X152 l152 y152 z152 st152 hQ152
      subst l152 y152 z152
      obtain ⟨rfl, Nq152, e152_⟩ := hQ152
      have N152_ := Fr.app N151_ Nq152
      refine FinH.byS st152 ?_
      have e152 := e152_
      refine FinH.by (fun tt_ kk_ => XS.iload X152.here hx rfl (hb hby at_200) rfl kk_) ?_
      obtain ⟨v153, _, ⟨T153, L153, k153, n153⟩, -, X153, ⟨Lc153, hQ153, l153, y153, z153⟩, st153⟩ := Jvm.LawKit.callS X152 hx (y := y_31) hown111 (mvT hZ111 (w_ hw 91 rfl)) (mvT hZ111 (w_ hw 92 rfl)) (mvT hZ111 (w_ hw 4 rfl)) (mvT hZ111 (w_ hw 93 rfl)) (by decide) (backOf (W := 1) (rm_low l Z a0 hw [] q3 T111.heap n0 z144 ) hZ111 (w_ hw 93 rfl) (w_ hw 4 rfl) (by decide) (by decide)) (g := (mkF m 202 #[.val (.int p1), .val (.int p2), .val (.int p3), .val (.int p4), .val (.int p5), .val (.int p6), .val (.int 4), .val (.int q0), .val (.int q1), .val (.int q2), .val (.int q3), .val (.int q4), .val (.ref y102), .val (.ref y112), .val (.int 1)] [(.int q3), (.int (([own_g (nar .char q0), own_g (nar .char q1), own_g (nar .char q2), own_g (nar .char q3)] : List Int32).getD 3 0))])) rfl (by rw [hml]; rfl) (argsL := [(.int q3)]) (rest := [(.int (([own_g (nar .char q0), own_g (nar .char q1), own_g (nar .char q2), own_g (nar .char q3)] : List Int32).getD 3 0))]) (lenOf pd_542 rfl) rfl (by show 2 * 0 + _ ≤ _; exact Nat.le_of_eq rfl) (hb hby at_202) (fun _ _ => ⟨rfl, e152, (by decide : 12 + 0 ≤ _), (by decide : 48 + 0 ≤ _)⟩)
      dsimp only [Pt.U, Pt.locs, Pt.cells, Pt.slots] at X153 l153 y153 z153 st153 hQ153
      subst l153 y153 z153
      obtain ⟨rfl, Nq153, e153_⟩ := hQ153
      have N153_ := Fr.app N152_ Nq153
      refine FinH.by (fun tt_ kk_ => st153 tt_ kk_) ?_
      have e153 := e153_
      show FinH _ _ _ _ _ _ _ _ _ (T153.setTop (mkF m 205 #[.val (.int p1), .val (.int p2), .val (.int p3), .val (.int p4), .val (.int p5), .val (.int p6), .val (.int 4), .val (.int q0), .val (.int q1), .val (.int q2), .val (.int q3), .val (.int q4), .val (.ref y102), .val (.ref y112), .val (.int 1)] [(.int (nar .char (own_low q3))), (.int (([own_g (nar .char q0), own_g (nar .char q1), own_g (nar .char q2), own_g (nar .char q3)] : List Int32).getD 3 0))]))
      refine FinH.by (fun tt_ kk_ => XS.icmpNo X153.here hx rfl (hb hby at_205) rfl (teq (by show own_g (nar .char q3) = nar .char (own_low q3); unfold own_g; rw [hq3, own_nn] : (([own_g (nar .char q0), own_g (nar .char q1), own_g (nar .char q2), own_g (nar .char q3)] : List Int32).getD 3 0) = (nar .char (own_low q3)))).2 kk_) ?_
      refine FinH.by (fun tt_ kk_ => XS.iconst X153.here hx rfl (hb hby at_208) (XS.goto X153.here hx rfl (pc0 := 209) (pc' := 213) rfl (hb hby at_209) (by decide) (by decide) (XS.istore X153.here hx rfl (hb hby at_213) rfl (l' := #[.val (.int p1), .val (.int p2), .val (.int p3), .val (.int p4), .val (.int p5), .val (.int p6), .val (.int 4), .val (.int q0), .val (.int q1), .val (.int q2), .val (.int q3), .val (.int q4), .val (.ref y102), .val (.ref y112), .val (.int 1)]) rfl (XS.iload X153.here hx rfl (hb hby at_215) rfl kk_)))) ?_
      show FinH _ _ _ _ _ _ _ _ _ (T153.setTop (mkF m 217 #[.val (.int p1), .val (.int p2), .val (.int p3), .val (.int p4), .val (.int p5), .val (.int p6), .val (.int 4), .val (.int q0), .val (.int q1), .val (.int q2), .val (.int q3), .val (.int q4), .val (.ref y102), .val (.ref y112), .val (.int 1)] [(.int 1)]))
      refine FinH.by (fun tt_ kk_ => XS.ifNo X153.here hx rfl (hb hby at_217) rfl ((if0 _ _).trans (feq (by decide : ¬ (1 : Int32) = (0 : Int32))).1) kk_) ?_
      refine FinH.by (fun tt_ kk_ => XS.iload X153.here hx rfl (hb hby at_220) rfl (XS.iconst X153.here hx rfl (hb hby at_222) kk_)) ?_
      show FinH _ _ _ _ _ _ _ _ _ (T153.setTop (mkF m 223 #[.val (.int p1), .val (.int p2), .val (.int p3), .val (.int p4), .val (.int p5), .val (.int p6), .val (.int 4), .val (.int q0), .val (.int q1), .val (.int q2), .val (.int q3), .val (.int q4), .val (.ref y102), .val (.ref y112), .val (.int 1)] [(.int 5), (.int 4)]))
      refine FinH.by (fun tt_ kk_ => XS.icmpYes X153.here hx rfl (pc0 := 223) (pc' := 240) rfl (hb hby at_223) rfl (tlt (by decide : (4 : Int32) < (5 : Int32))).1 (by decide) (by decide) kk_) ?_
      refine FinH.by (fun tt_ kk_ => XS.iconst X153.here hx rfl (hb hby at_240) (XS.goto X153.here hx rfl (pc0 := 241) (pc' := 245) rfl (hb hby at_241) (by decide) (by decide) (XS.istore X153.here hx rfl (hb hby at_245) rfl (l' := #[.val (.int p1), .val (.int p2), .val (.int p3), .val (.int p4), .val (.int p5), .val (.int p6), .val (.int 4), .val (.int q0), .val (.int q1), .val (.int q2), .val (.int q3), .val (.int q4), .val (.ref y102), .val (.ref y112), .val (.int 1)]) rfl (XS.iload X153.here hx rfl (hb hby at_247) rfl kk_)))) ?_
      show FinH _ _ _ _ _ _ _ _ _ (T153.setTop (mkF m 249 #[.val (.int p1), .val (.int p2), .val (.int p3), .val (.int p4), .val (.int p5), .val (.int p6), .val (.int 4), .val (.int q0), .val (.int q1), .val (.int q2), .val (.int q3), .val (.int q4), .val (.ref y102), .val (.ref y112), .val (.int 1)] [(.int 1)]))
      exact FinH.ret (v := some (.int (nar .boolean (1 : Int32)))) X153 hS111w (by rw [e153]; exact (Nat.le_refl _)) (fun h => by rw [Bd.returns] at h; cases h) Bd.notSynchronized (by rw [e153]; exact ⟨rfl, N153_⟩) (by rw [hh, e153]; exact ch118.trans (CHv.at X153 hZ111 own_EW ch118.1)) (by decide) (by decide) (fun fs hr => retN X153 hx (t := .boolean) Bd.returns (by simp) (hb hby at_249) hr)
    · have hcd : StrChars.Road.CodA ([own_g (nar .char q0), own_g (nar .char q1), own_g (nar .char q2), own_g (nar .char q3), own_g (nar .char q4)] : List Int32) cy117 Ny115 vy116 := by have q := p111_5; rw [own_mk5] at q; exact q
      have O154 : Old Z n0 T111.heap := (O109.keep p111_0 all0)
      have z155 : n0 ≤ T111.heap.size := Nat.le_trans z110 p111_0.1
      obtain ⟨cq156, kq156, qa156, qb156, qc156⟩ := isOf hZ111 rfl p111_1
      obtain ⟨v156, _, ⟨T156, L156, k156, n156⟩, -, X156, ⟨Lc156, hQ156, l156, y156, z156⟩, st156⟩ := X111w.virtualBack hx (y := y_29) (z := y_29) hown111 (mvT hZ111 (w_ hw 52 rfl)) (mvT hZ111 (w_ hw 53 rfl)) (notFace_of_selects (args := #[]) (mvT hZ111 (w_ hw 55 rfl))) (mvT hZ111 (w_ hw 55 rfl)) (mvT hZ111 (w_ hw 54 rfl)) (by decide) (backOf (W := 0) (rm_sle l Z a0 hw [] y112 ty113 ky114 Ny115 (vy116 : List Value) ([own_g (nar .char q0), own_g (nar .char q1), own_g (nar .char q2), own_g (nar .char q3), own_g (nar .char q4)] : List Int32) cy117 G1 T111.heap n0 z155 hcd (Nat.le_of_ble_eq_true rfl) p111_1 p111_2 p111_3 p111_4 S1 P1 O154) hZ111 (w_ hw 56 rfl) (w_ hw 8 rfl) (by decide) (by decide)) qa156 qc156 (g := (mkF m 72 #[.val (.int p1), .val (.int p2), .val (.int p3), .val (.int p4), .val (.int p5), .val (.int p6), .val (.int 5), .val (.int q0), .val (.int q1), .val (.int q2), .val (.int q3), .val (.int q4), .val (.ref y102), .val (.ref y112), .unset] [(.ref y112)])) rfl (by rw [hml]; rfl) (Steps.refl _) (argsL := []) (rest := []) (lenOf pd_549 rfl) rfl (by show 2 * 0 + _ ≤ _; exact Nat.le_of_eq rfl) (hb hby at_72) (fun _ _ => ⟨rfl, rfl, (by decide : 12 + 0 ≤ _), (by decide : 48 + 0 ≤ _)⟩)
      dsimp only [Pt.U, Pt.locs, Pt.cells, Pt.slots] at X156 l156 y156 z156 st156 hQ156
      subst l156 y156 z156
      obtain ⟨rfl, Nq156, e156_⟩ := hQ156
      have N156_ := Fr.app N111_ Nq156
      refine FinH.byS st156 ?_
      have e156 := e156_
      refine FinH.by (fun tt_ kk_ => XS.iload X156.here hx rfl (hb hby at_75) rfl kk_) ?_
      show FinH _ _ _ _ _ _ _ _ _ (T156.setTop (mkF m 77 #[.val (.int p1), .val (.int p2), .val (.int p3), .val (.int p4), .val (.int p5), .val (.int p6), .val (.int 5), .val (.int q0), .val (.int q1), .val (.int q2), .val (.int q3), .val (.int q4), .val (.ref y102), .val (.ref y112), .unset] [(.int 5), (.int (Int32.ofNat ([own_g (nar .char q0), own_g (nar .char q1), own_g (nar .char q2), own_g (nar .char q3), own_g (nar .char q4)] : List Int32).length))]))
      refine FinH.by (fun tt_ kk_ => XS.icmpNo X156.here hx rfl (hb hby at_77) rfl (teq (rfl : (Int32.ofNat ([own_g (nar .char q0), own_g (nar .char q1), own_g (nar .char q2), own_g (nar .char q3), own_g (nar .char q4)] : List Int32).length) = (5 : Int32))).2 kk_) ?_
      refine FinH.by (fun tt_ kk_ => XS.iconst X156.here hx rfl (hb hby at_80) (XS.goto X156.here hx rfl (pc0 := 81) (pc' := 85) rfl (hb hby at_81) (by decide) (by decide) (XS.istore X156.here hx rfl (hb hby at_85) rfl (l' := #[.val (.int p1), .val (.int p2), .val (.int p3), .val (.int p4), .val (.int p5), .val (.int p6), .val (.int 5), .val (.int q0), .val (.int q1), .val (.int q2), .val (.int q3), .val (.int q4), .val (.ref y102), .val (.ref y112), .val (.int 1)]) rfl (XS.iload X156.here hx rfl (hb hby at_87) rfl kk_)))) ?_
      show FinH _ _ _ _ _ _ _ _ _ (T156.setTop (mkF m 89 #[.val (.int p1), .val (.int p2), .val (.int p3), .val (.int p4), .val (.int p5), .val (.int p6), .val (.int 5), .val (.int q0), .val (.int q1), .val (.int q2), .val (.int q3), .val (.int q4), .val (.ref y102), .val (.ref y112), .val (.int 1)] [(.int 1)]))
      refine FinH.by (fun tt_ kk_ => XS.ifNo X156.here hx rfl (hb hby at_89) rfl ((if0 _ _).trans (feq (by decide : ¬ (1 : Int32) = (0 : Int32))).1) kk_) ?_
      refine FinH.by (fun tt_ kk_ => XS.iload X156.here hx rfl (hb hby at_92) rfl (XS.iconst X156.here hx rfl (hb hby at_94) kk_)) ?_
      show FinH _ _ _ _ _ _ _ _ _ (T156.setTop (mkF m 95 #[.val (.int p1), .val (.int p2), .val (.int p3), .val (.int p4), .val (.int p5), .val (.int p6), .val (.int 5), .val (.int q0), .val (.int q1), .val (.int q2), .val (.int q3), .val (.int q4), .val (.ref y102), .val (.ref y112), .val (.int 1)] [(.int 1), (.int 5)]))
      refine FinH.by (fun tt_ kk_ => XS.icmpNo X156.here hx rfl (hb hby at_95) rfl (flt (by decide : ¬ (5 : Int32) < (1 : Int32))).1 kk_) ?_
      refine FinH.by (fun tt_ kk_ => XS.aload X156.here hx rfl (hb hby at_98) rfl rfl (XS.iconst X156.here hx rfl (hb hby at_100) kk_)) ?_
      obtain ⟨cq157, kq157, qa157, qb157, qc157⟩ := isOf hZ111 e156 p111_1
      obtain ⟨v157, _, ⟨T157, L157, k157, n157⟩, -, X157, ⟨Lc157, hQ157, l157, y157, z157⟩, st157⟩ := X156.virtualBack hx (y := y_30) (z := y_30) hown111 (mvT hZ111 (w_ hw 75 rfl)) (mvT hZ111 (w_ hw 76 rfl)) (notFace_of_selects (args := #[]) (mvT hZ111 (w_ hw 78 rfl))) (mvT hZ111 (w_ hw 78 rfl)) (mvT hZ111 (w_ hw 77 rfl)) (by decide) (backOf (W := 0) (rm_chA l Z a0 hw [] y112 ty113 ky114 Ny115 (vy116 : List Value) ([own_g (nar .char q0), own_g (nar .char q1), own_g (nar .char q2), own_g (nar .char q3), own_g (nar .char q4)] : List Int32) cy117 0 (0 : Int32) G1 G9 T111.heap n0 z155 hcd (own_cons (own_nb _) (own_cons (own_nb _) (own_cons (own_nb _) (own_cons (own_nb _) (own_cons (own_nb _) own_nil))))) (Nat.le_of_ble_eq_true rfl) (Nat.le_of_ble_eq_true rfl) rfl p111_1 p111_2 p111_3 p111_4 S1 P1 S6 S7 S8 S9 r9 O154) hZ111 (w_ hw 79 rfl) (w_ hw 8 rfl) (by decide) (by decide)) qa157 qc157 (g := (mkF m 101 #[.val (.int p1), .val (.int p2), .val (.int p3), .val (.int p4), .val (.int p5), .val (.int p6), .val (.int 5), .val (.int q0), .val (.int q1), .val (.int q2), .val (.int q3), .val (.int q4), .val (.ref y102), .val (.ref y112), .val (.int 1)] [(.int 0), (.ref y112)])) rfl (by rw [hml]; rfl) (Steps.refl _) (argsL := [(.int 0)]) (rest := []) (lenOf pd_550 rfl) rfl (by show 2 * 0 + _ ≤ _; exact Nat.le_of_eq rfl) (hb hby at_101) (fun _ _ => ⟨rfl, e156, (by decide : 12 + 0 ≤ _), (by decide : 48 + 0 ≤ _)⟩)
      dsimp only [Pt.U, Pt.locs, Pt.cells, Pt.slots] at X157 l157 y157 z157 st157 hQ157
      subst l157 y157 z157
      obtain ⟨rfl, Nq157, e157_⟩ := hQ157
      have N157_ := Fr.app N156_ Nq157
      refine FinH.byS st157 ?_
      have e157 := e157_
      refine FinH.by (fun tt_ kk_ => XS.iload X157.here hx rfl (hb hby at_104) rfl kk_) ?_
      obtain ⟨v158, _, ⟨T158, L158, k158, n158⟩, -, X158, ⟨Lc158, hQ158, l158, y158, z158⟩, st158⟩ := Jvm.LawKit.callS X157 hx (y := y_31) hown111 (mvT hZ111 (w_ hw 91 rfl)) (mvT hZ111 (w_ hw 92 rfl)) (mvT hZ111 (w_ hw 4 rfl)) (mvT hZ111 (w_ hw 93 rfl)) (by decide) (backOf (W := 1) (rm_low l Z a0 hw [] q0 T111.heap n0 z155 ) hZ111 (w_ hw 93 rfl) (w_ hw 4 rfl) (by decide) (by decide)) (g := (mkF m 106 #[.val (.int p1), .val (.int p2), .val (.int p3), .val (.int p4), .val (.int p5), .val (.int p6), .val (.int 5), .val (.int q0), .val (.int q1), .val (.int q2), .val (.int q3), .val (.int q4), .val (.ref y102), .val (.ref y112), .val (.int 1)] [(.int q0), (.int (([own_g (nar .char q0), own_g (nar .char q1), own_g (nar .char q2), own_g (nar .char q3), own_g (nar .char q4)] : List Int32).getD 0 0))])) rfl (by rw [hml]; rfl) (argsL := [(.int q0)]) (rest := [(.int (([own_g (nar .char q0), own_g (nar .char q1), own_g (nar .char q2), own_g (nar .char q3), own_g (nar .char q4)] : List Int32).getD 0 0))]) (lenOf pd_542 rfl) rfl (by show 2 * 0 + _ ≤ _; exact Nat.le_of_eq rfl) (hb hby at_106) (fun _ _ => ⟨rfl, e157, (by decide : 12 + 0 ≤ _), (by decide : 48 + 0 ≤ _)⟩)
      dsimp only [Pt.U, Pt.locs, Pt.cells, Pt.slots] at X158 l158 y158 z158 st158 hQ158
      subst l158 y158 z158
      obtain ⟨rfl, Nq158, e158_⟩ := hQ158
      have N158_ := Fr.app N157_ Nq158
      refine FinH.by (fun tt_ kk_ => st158 tt_ kk_) ?_
      have e158 := e158_
      show FinH _ _ _ _ _ _ _ _ _ (T158.setTop (mkF m 109 #[.val (.int p1), .val (.int p2), .val (.int p3), .val (.int p4), .val (.int p5), .val (.int p6), .val (.int 5), .val (.int q0), .val (.int q1), .val (.int q2), .val (.int q3), .val (.int q4), .val (.ref y102), .val (.ref y112), .val (.int 1)] [(.int (nar .char (own_low q0))), (.int (([own_g (nar .char q0), own_g (nar .char q1), own_g (nar .char q2), own_g (nar .char q3), own_g (nar .char q4)] : List Int32).getD 0 0))]))
      refine FinH.by (fun tt_ kk_ => XS.icmpNo X158.here hx rfl (hb hby at_109) rfl (teq (by show own_g (nar .char q0) = nar .char (own_low q0); unfold own_g; rw [hq0, own_nn] : (([own_g (nar .char q0), own_g (nar .char q1), own_g (nar .char q2), own_g (nar .char q3), own_g (nar .char q4)] : List Int32).getD 0 0) = (nar .char (own_low q0)))).2 kk_) ?_
      refine FinH.by (fun tt_ kk_ => XS.iconst X158.here hx rfl (hb hby at_112) (XS.goto X158.here hx rfl (pc0 := 113) (pc' := 117) rfl (hb hby at_113) (by decide) (by decide) (XS.istore X158.here hx rfl (hb hby at_117) rfl (l' := #[.val (.int p1), .val (.int p2), .val (.int p3), .val (.int p4), .val (.int p5), .val (.int p6), .val (.int 5), .val (.int q0), .val (.int q1), .val (.int q2), .val (.int q3), .val (.int q4), .val (.ref y102), .val (.ref y112), .val (.int 1)]) rfl (XS.iload X158.here hx rfl (hb hby at_119) rfl kk_)))) ?_
      show FinH _ _ _ _ _ _ _ _ _ (T158.setTop (mkF m 121 #[.val (.int p1), .val (.int p2), .val (.int p3), .val (.int p4), .val (.int p5), .val (.int p6), .val (.int 5), .val (.int q0), .val (.int q1), .val (.int q2), .val (.int q3), .val (.int q4), .val (.ref y102), .val (.ref y112), .val (.int 1)] [(.int 1)]))
      refine FinH.by (fun tt_ kk_ => XS.ifNo X158.here hx rfl (hb hby at_121) rfl ((if0 _ _).trans (feq (by decide : ¬ (1 : Int32) = (0 : Int32))).1) kk_) ?_
      refine FinH.by (fun tt_ kk_ => XS.iload X158.here hx rfl (hb hby at_124) rfl (XS.iconst X158.here hx rfl (hb hby at_126) kk_)) ?_
      show FinH _ _ _ _ _ _ _ _ _ (T158.setTop (mkF m 127 #[.val (.int p1), .val (.int p2), .val (.int p3), .val (.int p4), .val (.int p5), .val (.int p6), .val (.int 5), .val (.int q0), .val (.int q1), .val (.int q2), .val (.int q3), .val (.int q4), .val (.ref y102), .val (.ref y112), .val (.int 1)] [(.int 2), (.int 5)]))
      refine FinH.by (fun tt_ kk_ => XS.icmpNo X158.here hx rfl (hb hby at_127) rfl (flt (by decide : ¬ (5 : Int32) < (2 : Int32))).1 kk_) ?_
      refine FinH.by (fun tt_ kk_ => XS.aload X158.here hx rfl (hb hby at_130) rfl rfl (XS.iconst X158.here hx rfl (hb hby at_132) kk_)) ?_
      obtain ⟨cq159, kq159, qa159, qb159, qc159⟩ := isOf hZ111 e158 p111_1
      obtain ⟨v159, _, ⟨T159, L159, k159, n159⟩, -, X159, ⟨Lc159, hQ159, l159, y159, z159⟩, st159⟩ := X158.virtualBack hx (y := y_30) (z := y_30) hown111 (mvT hZ111 (w_ hw 75 rfl)) (mvT hZ111 (w_ hw 76 rfl)) (notFace_of_selects (args := #[]) (mvT hZ111 (w_ hw 78 rfl))) (mvT hZ111 (w_ hw 78 rfl)) (mvT hZ111 (w_ hw 77 rfl)) (by decide) (backOf (W := 0) (rm_chA l Z a0 hw [] y112 ty113 ky114 Ny115 (vy116 : List Value) ([own_g (nar .char q0), own_g (nar .char q1), own_g (nar .char q2), own_g (nar .char q3), own_g (nar .char q4)] : List Int32) cy117 1 (1 : Int32) G1 G9 T111.heap n0 z155 hcd (own_cons (own_nb _) (own_cons (own_nb _) (own_cons (own_nb _) (own_cons (own_nb _) (own_cons (own_nb _) own_nil))))) (Nat.le_of_ble_eq_true rfl) (Nat.le_of_ble_eq_true rfl) rfl p111_1 p111_2 p111_3 p111_4 S1 P1 S6 S7 S8 S9 r9 O154) hZ111 (w_ hw 79 rfl) (w_ hw 8 rfl) (by decide) (by decide)) qa159 qc159 (g := (mkF m 133 #[.val (.int p1), .val (.int p2), .val (.int p3), .val (.int p4), .val (.int p5), .val (.int p6), .val (.int 5), .val (.int q0), .val (.int q1), .val (.int q2), .val (.int q3), .val (.int q4), .val (.ref y102), .val (.ref y112), .val (.int 1)] [(.int 1), (.ref y112)])) rfl (by rw [hml]; rfl) (Steps.refl _) (argsL := [(.int 1)]) (rest := []) (lenOf pd_550 rfl) rfl (by show 2 * 0 + _ ≤ _; exact Nat.le_of_eq rfl) (hb hby at_133) (fun _ _ => ⟨rfl, e158, (by decide : 12 + 0 ≤ _), (by decide : 48 + 0 ≤ _)⟩)
      dsimp only [Pt.U, Pt.locs, Pt.cells, Pt.slots] at X159 l159 y159 z159 st159 hQ159
      subst l159 y159 z159
      obtain ⟨rfl, Nq159, e159_⟩ := hQ159
      have N159_ := Fr.app N158_ Nq159
      refine FinH.byS st159 ?_
      have e159 := e159_
      refine FinH.by (fun tt_ kk_ => XS.iload X159.here hx rfl (hb hby at_136) rfl kk_) ?_
      obtain ⟨v160, _, ⟨T160, L160, k160, n160⟩, -, X160, ⟨Lc160, hQ160, l160, y160, z160⟩, st160⟩ := Jvm.LawKit.callS X159 hx (y := y_31) hown111 (mvT hZ111 (w_ hw 91 rfl)) (mvT hZ111 (w_ hw 92 rfl)) (mvT hZ111 (w_ hw 4 rfl)) (mvT hZ111 (w_ hw 93 rfl)) (by decide) (backOf (W := 1) (rm_low l Z a0 hw [] q1 T111.heap n0 z155 ) hZ111 (w_ hw 93 rfl) (w_ hw 4 rfl) (by decide) (by decide)) (g := (mkF m 138 #[.val (.int p1), .val (.int p2), .val (.int p3), .val (.int p4), .val (.int p5), .val (.int p6), .val (.int 5), .val (.int q0), .val (.int q1), .val (.int q2), .val (.int q3), .val (.int q4), .val (.ref y102), .val (.ref y112), .val (.int 1)] [(.int q1), (.int (([own_g (nar .char q0), own_g (nar .char q1), own_g (nar .char q2), own_g (nar .char q3), own_g (nar .char q4)] : List Int32).getD 1 0))])) rfl (by rw [hml]; rfl) (argsL := [(.int q1)]) (rest := [(.int (([own_g (nar .char q0), own_g (nar .char q1), own_g (nar .char q2), own_g (nar .char q3), own_g (nar .char q4)] : List Int32).getD 1 0))]) (lenOf pd_542 rfl) rfl (by show 2 * 0 + _ ≤ _; exact Nat.le_of_eq rfl) (hb hby at_138) (fun _ _ => ⟨rfl, e159, (by decide : 12 + 0 ≤ _), (by decide : 48 + 0 ≤ _)⟩)
      dsimp only [Pt.U, Pt.locs, Pt.cells, Pt.slots] at X160 l160 y160 z160 st160 hQ160
      subst l160 y160 z160
      obtain ⟨rfl, Nq160, e160_⟩ := hQ160
      have N160_ := Fr.app N159_ Nq160
      refine FinH.by (fun tt_ kk_ => st160 tt_ kk_) ?_
      have e160 := e160_
      show FinH _ _ _ _ _ _ _ _ _ (T160.setTop (mkF m 141 #[.val (.int p1), .val (.int p2), .val (.int p3), .val (.int p4), .val (.int p5), .val (.int p6), .val (.int 5), .val (.int q0), .val (.int q1), .val (.int q2), .val (.int q3), .val (.int q4), .val (.ref y102), .val (.ref y112), .val (.int 1)] [(.int (nar .char (own_low q1))), (.int (([own_g (nar .char q0), own_g (nar .char q1), own_g (nar .char q2), own_g (nar .char q3), own_g (nar .char q4)] : List Int32).getD 1 0))]))
      refine FinH.by (fun tt_ kk_ => XS.icmpNo X160.here hx rfl (hb hby at_141) rfl (teq (by show own_g (nar .char q1) = nar .char (own_low q1); unfold own_g; rw [hq1, own_nn] : (([own_g (nar .char q0), own_g (nar .char q1), own_g (nar .char q2), own_g (nar .char q3), own_g (nar .char q4)] : List Int32).getD 1 0) = (nar .char (own_low q1)))).2 kk_) ?_
      refine FinH.by (fun tt_ kk_ => XS.iconst X160.here hx rfl (hb hby at_144) (XS.goto X160.here hx rfl (pc0 := 145) (pc' := 149) rfl (hb hby at_145) (by decide) (by decide) (XS.istore X160.here hx rfl (hb hby at_149) rfl (l' := #[.val (.int p1), .val (.int p2), .val (.int p3), .val (.int p4), .val (.int p5), .val (.int p6), .val (.int 5), .val (.int q0), .val (.int q1), .val (.int q2), .val (.int q3), .val (.int q4), .val (.ref y102), .val (.ref y112), .val (.int 1)]) rfl (XS.iload X160.here hx rfl (hb hby at_151) rfl kk_)))) ?_
      show FinH _ _ _ _ _ _ _ _ _ (T160.setTop (mkF m 153 #[.val (.int p1), .val (.int p2), .val (.int p3), .val (.int p4), .val (.int p5), .val (.int p6), .val (.int 5), .val (.int q0), .val (.int q1), .val (.int q2), .val (.int q3), .val (.int q4), .val (.ref y102), .val (.ref y112), .val (.int 1)] [(.int 1)]))
      refine FinH.by (fun tt_ kk_ => XS.ifNo X160.here hx rfl (hb hby at_153) rfl ((if0 _ _).trans (feq (by decide : ¬ (1 : Int32) = (0 : Int32))).1) kk_) ?_
      refine FinH.by (fun tt_ kk_ => XS.iload X160.here hx rfl (hb hby at_156) rfl (XS.iconst X160.here hx rfl (hb hby at_158) kk_)) ?_
      show FinH _ _ _ _ _ _ _ _ _ (T160.setTop (mkF m 159 #[.val (.int p1), .val (.int p2), .val (.int p3), .val (.int p4), .val (.int p5), .val (.int p6), .val (.int 5), .val (.int q0), .val (.int q1), .val (.int q2), .val (.int q3), .val (.int q4), .val (.ref y102), .val (.ref y112), .val (.int 1)] [(.int 3), (.int 5)]))
      refine FinH.by (fun tt_ kk_ => XS.icmpNo X160.here hx rfl (hb hby at_159) rfl (flt (by decide : ¬ (5 : Int32) < (3 : Int32))).1 kk_) ?_
      refine FinH.by (fun tt_ kk_ => XS.aload X160.here hx rfl (hb hby at_162) rfl rfl (XS.iconst X160.here hx rfl (hb hby at_164) kk_)) ?_
      obtain ⟨cq161, kq161, qa161, qb161, qc161⟩ := isOf hZ111 e160 p111_1
      obtain ⟨v161, _, ⟨T161, L161, k161, n161⟩, -, X161, ⟨Lc161, hQ161, l161, y161, z161⟩, st161⟩ := X160.virtualBack hx (y := y_30) (z := y_30) hown111 (mvT hZ111 (w_ hw 75 rfl)) (mvT hZ111 (w_ hw 76 rfl)) (notFace_of_selects (args := #[]) (mvT hZ111 (w_ hw 78 rfl))) (mvT hZ111 (w_ hw 78 rfl)) (mvT hZ111 (w_ hw 77 rfl)) (by decide) (backOf (W := 0) (rm_chA l Z a0 hw [] y112 ty113 ky114 Ny115 (vy116 : List Value) ([own_g (nar .char q0), own_g (nar .char q1), own_g (nar .char q2), own_g (nar .char q3), own_g (nar .char q4)] : List Int32) cy117 2 (2 : Int32) G1 G9 T111.heap n0 z155 hcd (own_cons (own_nb _) (own_cons (own_nb _) (own_cons (own_nb _) (own_cons (own_nb _) (own_cons (own_nb _) own_nil))))) (Nat.le_of_ble_eq_true rfl) (Nat.le_of_ble_eq_true rfl) rfl p111_1 p111_2 p111_3 p111_4 S1 P1 S6 S7 S8 S9 r9 O154) hZ111 (w_ hw 79 rfl) (w_ hw 8 rfl) (by decide) (by decide)) qa161 qc161 (g := (mkF m 165 #[.val (.int p1), .val (.int p2), .val (.int p3), .val (.int p4), .val (.int p5), .val (.int p6), .val (.int 5), .val (.int q0), .val (.int q1), .val (.int q2), .val (.int q3), .val (.int q4), .val (.ref y102), .val (.ref y112), .val (.int 1)] [(.int 2), (.ref y112)])) rfl (by rw [hml]; rfl) (Steps.refl _) (argsL := [(.int 2)]) (rest := []) (lenOf pd_550 rfl) rfl (by show 2 * 0 + _ ≤ _; exact Nat.le_of_eq rfl) (hb hby at_165) (fun _ _ => ⟨rfl, e160, (by decide : 12 + 0 ≤ _), (by decide : 48 + 0 ≤ _)⟩)
      dsimp only [Pt.U, Pt.locs, Pt.cells, Pt.slots] at X161 l161 y161 z161 st161 hQ161
      subst l161 y161 z161
      obtain ⟨rfl, Nq161, e161_⟩ := hQ161
      have N161_ := Fr.app N160_ Nq161
      refine FinH.byS st161 ?_
      have e161 := e161_
      refine FinH.by (fun tt_ kk_ => XS.iload X161.here hx rfl (hb hby at_168) rfl kk_) ?_
      obtain ⟨v162, _, ⟨T162, L162, k162, n162⟩, -, X162, ⟨Lc162, hQ162, l162, y162, z162⟩, st162⟩ := Jvm.LawKit.callS X161 hx (y := y_31) hown111 (mvT hZ111 (w_ hw 91 rfl)) (mvT hZ111 (w_ hw 92 rfl)) (mvT hZ111 (w_ hw 4 rfl)) (mvT hZ111 (w_ hw 93 rfl)) (by decide) (backOf (W := 1) (rm_low l Z a0 hw [] q2 T111.heap n0 z155 ) hZ111 (w_ hw 93 rfl) (w_ hw 4 rfl) (by decide) (by decide)) (g := (mkF m 170 #[.val (.int p1), .val (.int p2), .val (.int p3), .val (.int p4), .val (.int p5), .val (.int p6), .val (.int 5), .val (.int q0), .val (.int q1), .val (.int q2), .val (.int q3), .val (.int q4), .val (.ref y102), .val (.ref y112), .val (.int 1)] [(.int q2), (.int (([own_g (nar .char q0), own_g (nar .char q1), own_g (nar .char q2), own_g (nar .char q3), own_g (nar .char q4)] : List Int32).getD 2 0))])) rfl (by rw [hml]; rfl) (argsL := [(.int q2)]) (rest := [(.int (([own_g (nar .char q0), own_g (nar .char q1), own_g (nar .char q2), own_g (nar .char q3), own_g (nar .char q4)] : List Int32).getD 2 0))]) (lenOf pd_542 rfl) rfl (by show 2 * 0 + _ ≤ _; exact Nat.le_of_eq rfl) (hb hby at_170) (fun _ _ => ⟨rfl, e161, (by decide : 12 + 0 ≤ _), (by decide : 48 + 0 ≤ _)⟩)
      dsimp only [Pt.U, Pt.locs, Pt.cells, Pt.slots] at X162 l162 y162 z162 st162 hQ162
      subst l162 y162 z162
      obtain ⟨rfl, Nq162, e162_⟩ := hQ162
      have N162_ := Fr.app N161_ Nq162
      refine FinH.by (fun tt_ kk_ => st162 tt_ kk_) ?_
      have e162 := e162_
      show FinH _ _ _ _ _ _ _ _ _ (T162.setTop (mkF m 173 #[.val (.int p1), .val (.int p2), .val (.int p3), .val (.int p4), .val (.int p5), .val (.int p6), .val (.int 5), .val (.int q0), .val (.int q1), .val (.int q2), .val (.int q3), .val (.int q4), .val (.ref y102), .val (.ref y112), .val (.int 1)] [(.int (nar .char (own_low q2))), (.int (([own_g (nar .char q0), own_g (nar .char q1), own_g (nar .char q2), own_g (nar .char q3), own_g (nar .char q4)] : List Int32).getD 2 0))]))
      refine FinH.by (fun tt_ kk_ => XS.icmpNo X162.here hx rfl (hb hby at_173) rfl (teq (by show own_g (nar .char q2) = nar .char (own_low q2); unfold own_g; rw [hq2, own_nn] : (([own_g (nar .char q0), own_g (nar .char q1), own_g (nar .char q2), own_g (nar .char q3), own_g (nar .char q4)] : List Int32).getD 2 0) = (nar .char (own_low q2)))).2 kk_) ?_
      refine FinH.by (fun tt_ kk_ => XS.iconst X162.here hx rfl (hb hby at_176) (XS.goto X162.here hx rfl (pc0 := 177) (pc' := 181) rfl (hb hby at_177) (by decide) (by decide) (XS.istore X162.here hx rfl (hb hby at_181) rfl (l' := #[.val (.int p1), .val (.int p2), .val (.int p3), .val (.int p4), .val (.int p5), .val (.int p6), .val (.int 5), .val (.int q0), .val (.int q1), .val (.int q2), .val (.int q3), .val (.int q4), .val (.ref y102), .val (.ref y112), .val (.int 1)]) rfl (XS.iload X162.here hx rfl (hb hby at_183) rfl kk_)))) ?_
      show FinH _ _ _ _ _ _ _ _ _ (T162.setTop (mkF m 185 #[.val (.int p1), .val (.int p2), .val (.int p3), .val (.int p4), .val (.int p5), .val (.int p6), .val (.int 5), .val (.int q0), .val (.int q1), .val (.int q2), .val (.int q3), .val (.int q4), .val (.ref y102), .val (.ref y112), .val (.int 1)] [(.int 1)]))
      refine FinH.by (fun tt_ kk_ => XS.ifNo X162.here hx rfl (hb hby at_185) rfl ((if0 _ _).trans (feq (by decide : ¬ (1 : Int32) = (0 : Int32))).1) kk_) ?_
      refine FinH.by (fun tt_ kk_ => XS.iload X162.here hx rfl (hb hby at_188) rfl (XS.iconst X162.here hx rfl (hb hby at_190) kk_)) ?_
      show FinH _ _ _ _ _ _ _ _ _ (T162.setTop (mkF m 191 #[.val (.int p1), .val (.int p2), .val (.int p3), .val (.int p4), .val (.int p5), .val (.int p6), .val (.int 5), .val (.int q0), .val (.int q1), .val (.int q2), .val (.int q3), .val (.int q4), .val (.ref y102), .val (.ref y112), .val (.int 1)] [(.int 4), (.int 5)]))
      refine FinH.by (fun tt_ kk_ => XS.icmpNo X162.here hx rfl (hb hby at_191) rfl (flt (by decide : ¬ (5 : Int32) < (4 : Int32))).1 kk_) ?_
      refine FinH.by (fun tt_ kk_ => XS.aload X162.here hx rfl (hb hby at_194) rfl rfl (XS.iconst X162.here hx rfl (hb hby at_196) kk_)) ?_
      obtain ⟨cq163, kq163, qa163, qb163, qc163⟩ := isOf hZ111 e162 p111_1
      obtain ⟨v163, _, ⟨T163, L163, k163, n163⟩, -, X163, ⟨Lc163, hQ163, l163, y163, z163⟩, st163⟩ := X162.virtualBack hx (y := y_30) (z := y_30) hown111 (mvT hZ111 (w_ hw 75 rfl)) (mvT hZ111 (w_ hw 76 rfl)) (notFace_of_selects (args := #[]) (mvT hZ111 (w_ hw 78 rfl))) (mvT hZ111 (w_ hw 78 rfl)) (mvT hZ111 (w_ hw 77 rfl)) (by decide) (backOf (W := 0) (rm_chA l Z a0 hw [] y112 ty113 ky114 Ny115 (vy116 : List Value) ([own_g (nar .char q0), own_g (nar .char q1), own_g (nar .char q2), own_g (nar .char q3), own_g (nar .char q4)] : List Int32) cy117 3 (3 : Int32) G1 G9 T111.heap n0 z155 hcd (own_cons (own_nb _) (own_cons (own_nb _) (own_cons (own_nb _) (own_cons (own_nb _) (own_cons (own_nb _) own_nil))))) (Nat.le_of_ble_eq_true rfl) (Nat.le_of_ble_eq_true rfl) rfl p111_1 p111_2 p111_3 p111_4 S1 P1 S6 S7 S8 S9 r9 O154) hZ111 (w_ hw 79 rfl) (w_ hw 8 rfl) (by decide) (by decide)) qa163 qc163 (g := (mkF m 197 #[.val (.int p1), .val (.int p2), .val (.int p3), .val (.int p4), .val (.int p5), .val (.int p6), .val (.int 5), .val (.int q0), .val (.int q1), .val (.int q2), .val (.int q3), .val (.int q4), .val (.ref y102), .val (.ref y112), .val (.int 1)] [(.int 3), (.ref y112)])) rfl (by rw [hml]; rfl) (Steps.refl _) (argsL := [(.int 3)]) (rest := []) (lenOf pd_550 rfl) rfl (by show 2 * 0 + _ ≤ _; exact Nat.le_of_eq rfl) (hb hby at_197) (fun _ _ => ⟨rfl, e162, (by decide : 12 + 0 ≤ _), (by decide : 48 + 0 ≤ _)⟩)
      dsimp only [Pt.U, Pt.locs, Pt.cells, Pt.slots] at X163 l163 y163 z163 st163 hQ163
      subst l163 y163 z163
      obtain ⟨rfl, Nq163, e163_⟩ := hQ163
      have N163_ := Fr.app N162_ Nq163
      refine FinH.byS st163 ?_
      have e163 := e163_
      refine FinH.by (fun tt_ kk_ => XS.iload X163.here hx rfl (hb hby at_200) rfl kk_) ?_
      obtain ⟨v164, _, ⟨T164, L164, k164, n164⟩, -, X164, ⟨Lc164, hQ164, l164, y164, z164⟩, st164⟩ := Jvm.LawKit.callS X163 hx (y := y_31) hown111 (mvT hZ111 (w_ hw 91 rfl)) (mvT hZ111 (w_ hw 92 rfl)) (mvT hZ111 (w_ hw 4 rfl)) (mvT hZ111 (w_ hw 93 rfl)) (by decide) (backOf (W := 1) (rm_low l Z a0 hw [] q3 T111.heap n0 z155 ) hZ111 (w_ hw 93 rfl) (w_ hw 4 rfl) (by decide) (by decide)) (g := (mkF m 202 #[.val (.int p1), .val (.int p2), .val (.int p3), .val (.int p4), .val (.int p5), .val (.int p6), .val (.int 5), .val (.int q0), .val (.int q1), .val (.int q2), .val (.int q3), .val (.int q4), .val (.ref y102), .val (.ref y112), .val (.int 1)] [(.int q3), (.int (([own_g (nar .char q0), own_g (nar .char q1), own_g (nar .char q2), own_g (nar .char q3), own_g (nar .char q4)] : List Int32).getD 3 0))])) rfl (by rw [hml]; rfl) (argsL := [(.int q3)]) (rest := [(.int (([own_g (nar .char q0), own_g (nar .char q1), own_g (nar .char q2), own_g (nar .char q3), own_g (nar .char q4)] : List Int32).getD 3 0))]) (lenOf pd_542 rfl) rfl (by show 2 * 0 + _ ≤ _; exact Nat.le_of_eq rfl) (hb hby at_202) (fun _ _ => ⟨rfl, e163, (by decide : 12 + 0 ≤ _), (by decide : 48 + 0 ≤ _)⟩)
      dsimp only [Pt.U, Pt.locs, Pt.cells, Pt.slots] at X164 l164 y164 z164 st164 hQ164
      subst l164 y164 z164
      obtain ⟨rfl, Nq164, e164_⟩ := hQ164
      have N164_ := Fr.app N163_ Nq164
      refine FinH.by (fun tt_ kk_ => st164 tt_ kk_) ?_
      have e164 := e164_
      show FinH _ _ _ _ _ _ _ _ _ (T164.setTop (mkF m 205 #[.val (.int p1), .val (.int p2), .val (.int p3), .val (.int p4), .val (.int p5), .val (.int p6), .val (.int 5), .val (.int q0), .val (.int q1), .val (.int q2), .val (.int q3), .val (.int q4), .val (.ref y102), .val (.ref y112), .val (.int 1)] [(.int (nar .char (own_low q3))), (.int (([own_g (nar .char q0), own_g (nar .char q1), own_g (nar .char q2), own_g (nar .char q3), own_g (nar .char q4)] : List Int32).getD 3 0))]))
      refine FinH.by (fun tt_ kk_ => XS.icmpNo X164.here hx rfl (hb hby at_205) rfl (teq (by show own_g (nar .char q3) = nar .char (own_low q3); unfold own_g; rw [hq3, own_nn] : (([own_g (nar .char q0), own_g (nar .char q1), own_g (nar .char q2), own_g (nar .char q3), own_g (nar .char q4)] : List Int32).getD 3 0) = (nar .char (own_low q3)))).2 kk_) ?_
      refine FinH.by (fun tt_ kk_ => XS.iconst X164.here hx rfl (hb hby at_208) (XS.goto X164.here hx rfl (pc0 := 209) (pc' := 213) rfl (hb hby at_209) (by decide) (by decide) (XS.istore X164.here hx rfl (hb hby at_213) rfl (l' := #[.val (.int p1), .val (.int p2), .val (.int p3), .val (.int p4), .val (.int p5), .val (.int p6), .val (.int 5), .val (.int q0), .val (.int q1), .val (.int q2), .val (.int q3), .val (.int q4), .val (.ref y102), .val (.ref y112), .val (.int 1)]) rfl (XS.iload X164.here hx rfl (hb hby at_215) rfl kk_)))) ?_
      show FinH _ _ _ _ _ _ _ _ _ (T164.setTop (mkF m 217 #[.val (.int p1), .val (.int p2), .val (.int p3), .val (.int p4), .val (.int p5), .val (.int p6), .val (.int 5), .val (.int q0), .val (.int q1), .val (.int q2), .val (.int q3), .val (.int q4), .val (.ref y102), .val (.ref y112), .val (.int 1)] [(.int 1)]))
      refine FinH.by (fun tt_ kk_ => XS.ifNo X164.here hx rfl (hb hby at_217) rfl ((if0 _ _).trans (feq (by decide : ¬ (1 : Int32) = (0 : Int32))).1) kk_) ?_
      refine FinH.by (fun tt_ kk_ => XS.iload X164.here hx rfl (hb hby at_220) rfl (XS.iconst X164.here hx rfl (hb hby at_222) kk_)) ?_
      show FinH _ _ _ _ _ _ _ _ _ (T164.setTop (mkF m 223 #[.val (.int p1), .val (.int p2), .val (.int p3), .val (.int p4), .val (.int p5), .val (.int p6), .val (.int 5), .val (.int q0), .val (.int q1), .val (.int q2), .val (.int q3), .val (.int q4), .val (.ref y102), .val (.ref y112), .val (.int 1)] [(.int 5), (.int 5)]))
      refine FinH.by (fun tt_ kk_ => XS.icmpNo X164.here hx rfl (hb hby at_223) rfl (flt (by decide : ¬ (5 : Int32) < (5 : Int32))).1 kk_) ?_
      refine FinH.by (fun tt_ kk_ => XS.aload X164.here hx rfl (hb hby at_226) rfl rfl (XS.iconst X164.here hx rfl (hb hby at_228) kk_)) ?_
      obtain ⟨cq165, kq165, qa165, qb165, qc165⟩ := isOf hZ111 e164 p111_1
      obtain ⟨v165, _, ⟨T165, L165, k165, n165⟩, -, X165, ⟨Lc165, hQ165, l165, y165, z165⟩, st165⟩ := X164.virtualBack hx (y := y_30) (z := y_30) hown111 (mvT hZ111 (w_ hw 75 rfl)) (mvT hZ111 (w_ hw 76 rfl)) (notFace_of_selects (args := #[]) (mvT hZ111 (w_ hw 78 rfl))) (mvT hZ111 (w_ hw 78 rfl)) (mvT hZ111 (w_ hw 77 rfl)) (by decide) (backOf (W := 0) (rm_chA l Z a0 hw [] y112 ty113 ky114 Ny115 (vy116 : List Value) ([own_g (nar .char q0), own_g (nar .char q1), own_g (nar .char q2), own_g (nar .char q3), own_g (nar .char q4)] : List Int32) cy117 4 (4 : Int32) G1 G9 T111.heap n0 z155 hcd (own_cons (own_nb _) (own_cons (own_nb _) (own_cons (own_nb _) (own_cons (own_nb _) (own_cons (own_nb _) own_nil))))) (Nat.le_of_ble_eq_true rfl) (Nat.le_of_ble_eq_true rfl) rfl p111_1 p111_2 p111_3 p111_4 S1 P1 S6 S7 S8 S9 r9 O154) hZ111 (w_ hw 79 rfl) (w_ hw 8 rfl) (by decide) (by decide)) qa165 qc165 (g := (mkF m 229 #[.val (.int p1), .val (.int p2), .val (.int p3), .val (.int p4), .val (.int p5), .val (.int p6), .val (.int 5), .val (.int q0), .val (.int q1), .val (.int q2), .val (.int q3), .val (.int q4), .val (.ref y102), .val (.ref y112), .val (.int 1)] [(.int 4), (.ref y112)])) rfl (by rw [hml]; rfl) (Steps.refl _) (argsL := [(.int 4)]) (rest := []) (lenOf pd_550 rfl) rfl (by show 2 * 0 + _ ≤ _; exact Nat.le_of_eq rfl) (hb hby at_229) (fun _ _ => ⟨rfl, e164, (by decide : 12 + 0 ≤ _), (by decide : 48 + 0 ≤ _)⟩)
      dsimp only [Pt.U, Pt.locs, Pt.cells, Pt.slots] at X165 l165 y165 z165 st165 hQ165
      subst l165 y165 z165
      obtain ⟨rfl, Nq165, e165_⟩ := hQ165
      have N165_ := Fr.app N164_ Nq165
      refine FinH.byS st165 ?_
      have e165 := e165_
      refine FinH.by (fun tt_ kk_ => XS.iload X165.here hx rfl (hb hby at_232) rfl kk_) ?_
      obtain ⟨v166, _, ⟨T166, L166, k166, n166⟩, -, X166, ⟨Lc166, hQ166, l166, y166, z166⟩, st166⟩ := Jvm.LawKit.callS X165 hx (y := y_31) hown111 (mvT hZ111 (w_ hw 91 rfl)) (mvT hZ111 (w_ hw 92 rfl)) (mvT hZ111 (w_ hw 4 rfl)) (mvT hZ111 (w_ hw 93 rfl)) (by decide) (backOf (W := 1) (rm_low l Z a0 hw [] q4 T111.heap n0 z155 ) hZ111 (w_ hw 93 rfl) (w_ hw 4 rfl) (by decide) (by decide)) (g := (mkF m 234 #[.val (.int p1), .val (.int p2), .val (.int p3), .val (.int p4), .val (.int p5), .val (.int p6), .val (.int 5), .val (.int q0), .val (.int q1), .val (.int q2), .val (.int q3), .val (.int q4), .val (.ref y102), .val (.ref y112), .val (.int 1)] [(.int q4), (.int (([own_g (nar .char q0), own_g (nar .char q1), own_g (nar .char q2), own_g (nar .char q3), own_g (nar .char q4)] : List Int32).getD 4 0))])) rfl (by rw [hml]; rfl) (argsL := [(.int q4)]) (rest := [(.int (([own_g (nar .char q0), own_g (nar .char q1), own_g (nar .char q2), own_g (nar .char q3), own_g (nar .char q4)] : List Int32).getD 4 0))]) (lenOf pd_542 rfl) rfl (by show 2 * 0 + _ ≤ _; exact Nat.le_of_eq rfl) (hb hby at_234) (fun _ _ => ⟨rfl, e165, (by decide : 12 + 0 ≤ _), (by decide : 48 + 0 ≤ _)⟩)
      dsimp only [Pt.U, Pt.locs, Pt.cells, Pt.slots] at X166 l166 y166 z166 st166 hQ166
      subst l166 y166 z166
      obtain ⟨rfl, Nq166, e166_⟩ := hQ166
      have N166_ := Fr.app N165_ Nq166
      refine FinH.by (fun tt_ kk_ => st166 tt_ kk_) ?_
      have e166 := e166_
      show FinH _ _ _ _ _ _ _ _ _ (T166.setTop (mkF m 237 #[.val (.int p1), .val (.int p2), .val (.int p3), .val (.int p4), .val (.int p5), .val (.int p6), .val (.int 5), .val (.int q0), .val (.int q1), .val (.int q2), .val (.int q3), .val (.int q4), .val (.ref y102), .val (.ref y112), .val (.int 1)] [(.int (nar .char (own_low q4))), (.int (([own_g (nar .char q0), own_g (nar .char q1), own_g (nar .char q2), own_g (nar .char q3), own_g (nar .char q4)] : List Int32).getD 4 0))]))
      refine FinH.by (fun tt_ kk_ => XS.icmpNo X166.here hx rfl (hb hby at_237) rfl (teq (by show own_g (nar .char q4) = nar .char (own_low q4); unfold own_g; rw [hq4, own_nn] : (([own_g (nar .char q0), own_g (nar .char q1), own_g (nar .char q2), own_g (nar .char q3), own_g (nar .char q4)] : List Int32).getD 4 0) = (nar .char (own_low q4)))).2 kk_) ?_
      refine FinH.by (fun tt_ kk_ => XS.iconst X166.here hx rfl (hb hby at_240) (XS.goto X166.here hx rfl (pc0 := 241) (pc' := 245) rfl (hb hby at_241) (by decide) (by decide) (XS.istore X166.here hx rfl (hb hby at_245) rfl (l' := #[.val (.int p1), .val (.int p2), .val (.int p3), .val (.int p4), .val (.int p5), .val (.int p6), .val (.int 5), .val (.int q0), .val (.int q1), .val (.int q2), .val (.int q3), .val (.int q4), .val (.ref y102), .val (.ref y112), .val (.int 1)]) rfl (XS.iload X166.here hx rfl (hb hby at_247) rfl kk_)))) ?_
      show FinH _ _ _ _ _ _ _ _ _ (T166.setTop (mkF m 249 #[.val (.int p1), .val (.int p2), .val (.int p3), .val (.int p4), .val (.int p5), .val (.int p6), .val (.int 5), .val (.int q0), .val (.int q1), .val (.int q2), .val (.int q3), .val (.int q4), .val (.ref y102), .val (.ref y112), .val (.int 1)] [(.int 1)]))
      exact FinH.ret (v := some (.int (nar .boolean (1 : Int32)))) X166 hS111w (by rw [e166]; exact (Nat.le_refl _)) (fun h => by rw [Bd.returns] at h; cases h) Bd.notSynchronized (by rw [e166]; exact ⟨rfl, N166_⟩) (by rw [hh, e166]; exact ch118.trans (CHv.at X166 hZ111 own_EW ch118.1)) (by decide) (by decide) (fun fs hr => retN X166 hx (t := .boolean) Bd.returns (by simp) (hb hby at_249) hr)
  show FinH _ _ _ _ _ _ _ _ _ (s₁.setTop (mkF m 46 #[.val (.int p1), .val (.int p2), .val (.int p3), .val (.int p4), .val (.int p5), .val (.int p6), .val (.int ((p1 &&& 2147483647) % 6)), .val (.int ((p2 &&& 65535).toUInt32.toUInt16.toUInt32.toInt32)), .val (.int ((p3 &&& 65535).toUInt32.toUInt16.toUInt32.toInt32)), .val (.int ((p4 &&& 65535).toUInt32.toUInt16.toUInt32.toInt32)), .val (.int ((p5 &&& 65535).toUInt32.toUInt16.toUInt32.toInt32)), .val (.int ((p6 &&& 65535).toUInt32.toUInt16.toUInt32.toInt32)), .unset, .unset, .unset] []))
  exact J46 ((p1 &&& (2147483647 : Int32)) % (6 : Int32)) ((p2 &&& (65535 : Int32)).toUInt32.toUInt16.toUInt32.toInt32) ((p3 &&& (65535 : Int32)).toUInt32.toUInt16.toUInt32.toInt32) ((p4 &&& (65535 : Int32)).toUInt32.toUInt16.toUInt32.toInt32) ((p5 &&& (65535 : Int32)).toUInt32.toUInt16.toUInt32.toInt32) ((p6 &&& (65535 : Int32)).toUInt32.toUInt16.toUInt32.toInt32) (own_mod6 _) (own_nc _) (own_nc _) (own_nc _) (own_nc _) (own_nc _)
set_option maxRecDepth 65536 in
set_option maxHeartbeats 40000000 in
theorem comes_1 {Post : Tables → Env → Array Value → State → Outcome → State → Prop} (hpost : ∀ tb e args s v u, (limb_1_1.after args s (.returned v) u = true ∧ limb_1_2.after args s (.returned v) u = true ∧ True) → ReturnedEndW s (.returned v) u (Jvm.fieldLocs frame_1_writes args s ++ Jvm.arrayLocs frame_1_arrays args s ++ Jvm.staticLocs frame_1_statics s) 32 1216 → Post tb e args s (.returned v) u) :
    ArmFor flags0 classFile x code maxLocals ret World_1 tables_1 room_1 Calls_1 rest_1 Pre_1 Post := by
  intro l hfl _ _ p e ha hc hk s m args below hf hA hF happ hP
  obtain ⟨hcalls, hrest, hpre⟩ := hP
  obtain ⟨-, -, -, hnamed, -, -, -, hat⟩ := (Spec.applies_iff hf).mp happ
  obtain ⟨hg, hn⟩ := and_e (Cond.before_iff.mp (show (Jvm.Cond.and given_1 narrow_1).before args s = true from hpre))
  obtain ⟨q0, r0⟩ := and_e hg
  obtain ⟨q1, r1⟩ := and_e r0
  obtain ⟨q2, r2⟩ := and_e r1
  obtain ⟨q3, r3⟩ := and_e r2
  obtain ⟨q4, r4⟩ := and_e r3
  obtain ⟨q5, r5⟩ := and_e r4
  obtain ⟨w0, w1, w2, w3, w4, w5, rfl⟩ : ∃ w0 w1 w2 w3 w4 w5 : Value, args = #[w0, w1, w2, w3, w4, w5] := by
    have hs : args.size = 6 := by simpa [Cond.value, given_1] using q0
    obtain ⟨L⟩ := args
    match L, hs with
    | [w0, w1, w2, w3, w4, w5], _ => exact ⟨w0, w1, w2, w3, w4, w5, rfl⟩
  have hw := fun d (hd : d ∈ tables_1) => atoms_spec (ws := Jvm.Cond.code x code maxLocals ret :: tables_1) hat d (List.mem_cons_of_mem _ hd)
  obtain ⟨hsets, hown0⟩ := atoms_of _ (rest_1_c_eq ▸ (show rest_1_c.before _ s = true from hrest))
  have hfit : Fit s := fun {y c} hc i hi => by
    obtain ⟨ha, rfl⟩ := Array.getElem?_eq_some_iff.mp hc
    have q := List.all_eq_true.mp ((Array.all_eq_true_iff_forall_mem.mp hF) _ (Array.getElem_mem ha)) i (List.mem_range.mpr hi)
    simpa [Array.getElem?_eq_getElem hi] using q
  obtain ⟨i0, e0⟩ := is_v q1
  obtain rfl : w0 = (.int i0) := Option.some.inj e0
  obtain ⟨i1, e1⟩ := is_v q2
  obtain rfl : w1 = (.int i1) := Option.some.inj e1
  obtain ⟨i2, e2⟩ := is_v q3
  obtain rfl : w2 = (.int i2) := Option.some.inj e2
  obtain ⟨i3, e3⟩ := is_v q4
  obtain rfl : w3 = (.int i3) := Option.some.inj e3
  obtain ⟨i4, e4⟩ := is_v q5
  obtain rfl : w4 = (.int i4) := Option.some.inj e4
  obtain ⟨i5, e5⟩ := is_v r5
  obtain rfl : w5 = (.int i5) := Option.some.inj e5
  have nz_cs := not_v (Cond.before_iff.mp (hsets _ (List.mem_of_getElem? (i := 2) rfl)))
  obtain ⟨G1, ee_cs⟩ := is_v (Cond.before_iff.mp (hsets _ (List.mem_of_getElem? (i := 1) rfl)))
  have S1 : Sta s s.heap "java/lang/String" "COMPACT_STRINGS" "Z" (.int G1) := Sta.start ee_cs (Or.inl (hsets _ (List.mem_of_getElem? (i := 0) rfl)))
  have P1 : ¬ (G1 = (0 : Int32)) := gotF (Cond.eq_ints ee_cs (Term.int_eval (0))) nz_cs
  have S6 : Sta s s.heap "java/lang/StringUTF16" "$assertionsDisabled" "Z" (.int (1 : Int32)) := Sta.start (own_eqi (Cond.before_iff.mp (hsets _ (List.mem_of_getElem? (i := 12) rfl)))) (Or.inl (hsets _ (List.mem_of_getElem? (i := 11) rfl)))
  have S7 : Sta s s.heap "java/lang/StringUTF16" "HI_BYTE_SHIFT" "I" (.int (0 : Int32)) := Sta.start (own_eqi (Cond.before_iff.mp (hsets _ (List.mem_of_getElem? (i := 15) rfl)))) (Or.inl (hsets _ (List.mem_of_getElem? (i := 14) rfl)))
  have S8 : Sta s s.heap "java/lang/StringUTF16" "LO_BYTE_SHIFT" "I" (.int (8 : Int32)) := Sta.start (own_eqi (Cond.before_iff.mp (hsets _ (List.mem_of_getElem? (i := 18) rfl)))) (Or.inl (hsets _ (List.mem_of_getElem? (i := 17) rfl)))
  obtain ⟨G9, ee_G9, r9⟩ := isR_v (Cond.before_iff.mp (hsets _ (List.mem_of_getElem? (i := 8) rfl)))
  have S9 : Sta s s.heap "jdk/internal/util/Preconditions" "SIOOBE_FORMATTER" "Ljava/util/function/BiFunction;" G9 := Sta.start ee_G9 (Or.inl (hsets _ (List.mem_of_getElem? (i := 7) rfl)))
  have hC0 : CHv s consts_1 s.vm s.heap := CHv.start (own_EW0 hw) (fun p hp => hcalls.1 p hp) (hsets _ (List.mem_of_getElem? (i := 2) rfl)) (w_ hw 21 rfl) (w_ hw 7 rfl)
  obtain ⟨n, o, h1, h2, h3, _, L, rfl, ⟨rfl, N⟩, -, hq⟩ := rm_law l s _ hw tables_1 i0 i1 i2 i3 i4 i5 G1 G9 s.heap s.heap.size (Nat.le_refl _) S1 P1 S6 S7 S8 S9 r9 (Old.start s) p e ha hc hk s m _ below hf ((Spec.applies_iff_loose hf).mp happ).1 ⟨rfl, State.Warmed39.refl s, rfl, hC0⟩ trivial
  refine ⟨n, _, h1, h2, h3, hpost _ _ _ _ _ _ ⟨Cond.after_iff.mpr rfl, Cond.after_iff.mpr (eq_i res_at (Term.int_eval (1)) rfl), trivial⟩ ⟨hq.1, hq.2.1, hq.2.2.1, (hq.2.2.2.sift fun y hy => Or.inr (N y hy)).mono (by decide) (by decide)⟩⟩
theorem main_1_1 : Claimed_1_1 := comes_1 fun _ _ _ _ _ _ h hF => ⟨h.1, hF⟩
theorem main_1_2 : Claimed_1_2 := comes_1 fun _ _ _ _ _ _ h hF => ⟨h.2.1, hF⟩
end Jvm.Pilot.@@N@@
namespace Jvm.Pilot.@@N@@
open Jvm Jvm.ClassFile Sem Op Lib Jvm.Free Jvm.Stand Jvm.Pilot.@@N@@.Jvm.D
/-! MADE BY PROGRAM (witnessworld.py) out of the Statement's table words and the real class files: 20 classes; the members and pool entries that the words name. The judged class is class 1, her method 3. -/
namespace start1
open Jvm.ClassFile
def u (s : String) : CpInfo := .utf8 (stringToUtf16 s)
/-- a pool by its gaps: so many unusable entries, then the entry; so many at the end -/
def gap : Nat → List CpInfo → List CpInfo
  | 0, r => r
  | n + 1, r => .unusable :: gap n r
def poolList (es : List (Nat × CpInfo)) (last : Nat) : List CpInfo := es.foldr (fun e r => gap e.1 (e.2 :: r)) (gap last [])
def pool (es : List (Nat × CpInfo)) (last : Nat) : Array CpInfo := ⟨poolList es last⟩
def fileOf (pool : Array CpInfo) (this : Nat) (attrs : Array Attribute := #[]) (ms : Array MethodInfo := #[]) (fl : Nat := 33) (sup : Nat := 0) (ifs : Array Nat := #[]) (fds : Array FieldInfo := #[]) : ClassFile where
  minorVersion := 0
  majorVersion := 65
  constantPool := pool
  accessFlags := fl
  thisClass := this
  superClass := sup
  interfaces := ifs
  fields := fds
  methods := ms
  attributes := attrs
def plain (name : String) (sup : Option ClassId) : Class where
  name := name
  kind := .ordinary
  loader := none
  accessFlags := 33
  super := sup
  interfaces := #[]
  cf := none
  fields := #[]
  methods := #[]
  instanceTypes := #[]
  staticTypes := #[]
  resolved := #[]
  callSites := []
  init := .initialized
  statics := none
  mirror := none

def pool0 : Array CpInfo := pool [(5, u "<init>"), (0, u "()V"), (1, .class_ 10), (1, u "java/lang/Object")] 113

def k0c0 : Code := { maxStack := 0, maxLocals := 1, code := object_method_1_code, exceptionTable := #[], attributes := #[] }
def k0m0 : Method := { name := "<init>", desc := "()V", sig := { parameters := [], returnType := none }, accessFlags := 1, code := some k0c0 }
/-- java/lang/Object -/
def k0 : Class := { plain "java/lang/Object" none with
  accessFlags := 33
  interfaces := #[]
  cf := some (fileOf pool0 8 #[] #[{ accessFlags := 1, nameIndex := 5, descriptorIndex := 6, attributes := #[] }] 33 0 #[] #[])
  fields := #[]
  methods := #[k0m0]
  instanceTypes := #[]
  staticTypes := #[]
  resolved := Array.replicate 124 none
  statics := none }

def pool1 : Array CpInfo := pool [(2, .class_ 4), (1, u "java/lang/Object"), (0, u "<init>"), (0, u "()V"), (0, .class_ 8), (0, u "java/lang/String"), (0, .methodref 7 10), (0, .nameAndType 5 11), (0, u "([C)V"), (0, .integer 2147483647), (0, .integer 65535), (0, .methodref 15 16), (0, .class_ 17), (0, .nameAndType 18 19), (0, u "com/example/colonnade/colonnade/TokenValuesAsciiLowerCasePinLaw"), (0, u "make"), (0, u "(ICCCCC)Ljava/lang/String;"), (0, .methodref 21 22), (0, .class_ 23), (0, .nameAndType 24 25), (0, u "com/example/colonnade/colonnade/TokenValues"), (0, u "asciiLowerCase"), (0, u "(Ljava/lang/String;)Ljava/lang/String;"), (0, .methodref 7 27), (0, .nameAndType 28 29), (0, u "length"), (0, u "()I"), (0, .methodref 7 31), (0, .nameAndType 32 33), (0, u "charAt"), (0, u "(I)C"), (0, .methodref 15 35), (0, .nameAndType 36 37), (0, u "lower"), (0, u "(C)C"), (3, u "law"), (0, u "(IIIIII)Z")] 2

def k1m0 : Method := { name := "<init>", desc := "()V", sig := { parameters := [], returnType := none }, accessFlags := 2, code := none }
def k1c1 : Code := { maxStack := 2, maxLocals := 1, code := method_2_code, exceptionTable := #[], attributes := #[] }
def k1m1 : Method := { name := "lower", desc := "(C)C", sig := { parameters := [.char], returnType := some .char }, accessFlags := 10, code := some k1c1 }
def k1c2 : Code := { maxStack := 6, maxLocals := 6, code := method_3_code, exceptionTable := #[], attributes := #[] }
def k1m2 : Method := { name := "make", desc := "(ICCCCC)Ljava/lang/String;", sig := { parameters := [.int, .char, .char, .char, .char, .char], returnType := some (.object "java/lang/String") }, accessFlags := 10, code := some k1c2 }
def k1c3 : Code := { maxStack := 6, maxLocals := 15, code := code, exceptionTable := #[], attributes := #[] }
def k1m3 : Method := { name := "law", desc := "(IIIIII)Z", sig := { parameters := [.int, .int, .int, .int, .int, .int], returnType := some .boolean }, accessFlags := 9, code := some k1c3 }
/-- com/example/colonnade/colonnade/TokenValuesAsciiLowerCasePinLaw -/
def k1 : Class := { plain "com/example/colonnade/colonnade/TokenValuesAsciiLowerCasePinLaw" (some 0) with
  accessFlags := 49
  interfaces := #[]
  cf := some (fileOf pool1 15 #[] #[{ accessFlags := 2, nameIndex := 5, descriptorIndex := 6, attributes := #[] }, { accessFlags := 10, nameIndex := 36, descriptorIndex := 37, attributes := #[] }, { accessFlags := 10, nameIndex := 18, descriptorIndex := 19, attributes := #[] }, { accessFlags := 9, nameIndex := 41, descriptorIndex := 42, attributes := #[] }] 49 2 #[] #[])
  fields := #[]
  methods := #[k1m0, k1m1, k1m2, k1m3]
  instanceTypes := #[]
  staticTypes := #[]
  resolved := Array.replicate 45 none
  statics := none }

def pool2 : Array CpInfo := pool [(1, .class_ 2), (0, u "java/io/Serializable"), (0, .class_ 4), (0, u "java/lang/Object")] 2

/-- java/io/Serializable -/
def k2 : Class := { plain "java/io/Serializable" (some 0) with
  accessFlags := 1537
  interfaces := #[]
  cf := some (fileOf pool2 1 #[] #[] 1537 3 #[] #[])
  fields := #[]
  methods := #[]
  instanceTypes := #[]
  staticTypes := #[]
  resolved := Array.replicate 7 none
  statics := none }

def pool3 : Array CpInfo := pool [(1, .class_ 2), (0, u "java/lang/Comparable"), (0, .class_ 4), (0, u "java/lang/Object")] 7

/-- java/lang/Comparable -/
def k3 : Class := { plain "java/lang/Comparable" (some 0) with
  accessFlags := 1537
  interfaces := #[]
  cf := some (fileOf pool3 1 #[] #[] 1537 3 #[] #[])
  fields := #[]
  methods := #[]
  instanceTypes := #[]
  staticTypes := #[]
  resolved := Array.replicate 12 none
  statics := none }

def pool4 : Array CpInfo := pool [(2, .class_ 4), (1, u "java/lang/CharSequence"), (42, .class_ 48), (0, u "java/lang/CharSequence$1CodePointIterator"), (10, .class_ 60), (0, u "java/lang/CharSequence$1CharIterator"), (5, .class_ 67), (0, u "java/lang/Object")] 63

/-- java/lang/CharSequence -/
def k4 : Class := { plain "java/lang/CharSequence" (some 0) with
  accessFlags := 1537
  interfaces := #[]
  cf := some (fileOf pool4 2 #[.nestMembers #[47, 59]] #[] 1537 66 #[] #[])
  fields := #[]
  methods := #[]
  instanceTypes := #[]
  staticTypes := #[]
  resolved := Array.replicate 131 none
  statics := none }

def pool5 : Array CpInfo := pool [(1, .class_ 2), (0, u "java/lang/constant/Constable"), (0, .class_ 4), (0, u "java/lang/Object")] 6

/-- java/lang/constant/Constable -/
def k5 : Class := { plain "java/lang/constant/Constable" (some 0) with
  accessFlags := 1537
  interfaces := #[]
  cf := some (fileOf pool5 1 #[] #[] 1537 3 #[] #[])
  fields := #[]
  methods := #[]
  instanceTypes := #[]
  staticTypes := #[]
  resolved := Array.replicate 11 none
  statics := none }

def pool6 : Array CpInfo := pool [(1, .class_ 2), (0, u "java/lang/constant/ConstantDesc"), (0, .class_ 4), (0, u "java/lang/Object")] 32

/-- java/lang/constant/ConstantDesc -/
def k6 : Class := { plain "java/lang/constant/ConstantDesc" (some 0) with
  accessFlags := 1537
  interfaces := #[]
  cf := some (fileOf pool6 1 #[] #[] 1537 3 #[] #[])
  fields := #[]
  methods := #[]
  instanceTypes := #[]
  staticTypes := #[]
  resolved := Array.replicate 37 none
  statics := none }

def pool7 : Array CpInfo := pool [(1, .methodref 2 3), (0, .class_ 4), (0, .nameAndType 5 6), (0, u "java/lang/Object"), (0, u "<init>"), (0, u "()V"), (0, .string 8), (0, u ""), (0, .fieldref 10 11), (0, .class_ 12), (0, .nameAndType 13 14), (0, u "java/lang/String"), (0, u "value"), (0, u "[B"), (0, .fieldref 10 16), (0, .nameAndType 17 18), (0, u "coder"), (0, u "B"), (2, u "hash"), (0, u "I"), (2, u "hashIsZero"), (0, u "Z"), (0, .methodref 10 28), (0, .nameAndType 5 29), (0, u "([CIILjava/lang/Void;)V"), (6, u "checkBoundsOffCount"), (0, u "(III)I"), (0, .fieldref 10 39), (0, .nameAndType 40 26), (0, u "COMPACT_STRINGS"), (1, .class_ 44), (1, u "java/lang/StringUTF16"), (0, u "compress"), (1, .methodref 42 48), (0, .nameAndType 49 50), (0, u "coderFromArrayLen"), (0, u "([BI)B"), (56, .class_ 109), (1, u "java/lang/StringLatin1"), (32, u "()Z"), (34, .methodref 42 178), (0, .nameAndType 45 179), (0, u "([CII)[B"), (119, .methodref 107 300), (0, .nameAndType 301 302), (0, u "toChars"), (0, u "([B)[C"), (0, .methodref 42 300), (30, u "()I"), (0, .methodref 10 336), (0, .nameAndType 17 337), (0, u "()B"), (25, u "([BI)C"), (27, u "(II)V"), (35, u "(I)C"), (64, .methodref 10 493), (0, .nameAndType 494 142), (0, u "isLatin1"), (0, .methodref 107 496), (0, .nameAndType 497 363), (0, u "charAt"), (0, .methodref 42 496), (2, u "checkIndex"), (5, u "length"), (67, .class_ 576), (0, u "java/lang/CharSequence"), (22, u "CASE_INSENSITIVE_ORDER"), (0, u "Ljava/util/Comparator;"), (354, u "toCharArray"), (0, u "()[C"), (53, u "([C)V"), (42, .fieldref 1054 1055), (0, .class_ 1056), (0, .nameAndType 1057 1058), (0, u "jdk/internal/util/Preconditions"), (0, u "SIOOBE_FORMATTER"), (0, u "Ljava/util/function/BiFunction;"), (0, .methodref 1054 1060), (0, .nameAndType 501 1061), (0, u "(IILjava/util/function/BiFunction;)I"), (2, u "(IIILjava/util/function/BiFunction;)I"), (0, .methodref 1054 1066), (0, .nameAndType 1067 1064), (0, u "checkFromIndexSize"), (33, u "serialPersistentFields"), (0, u "[Ljava/io/ObjectStreamField;"), (0, .class_ 1104), (0, u "java/lang/String$CaseInsensitiveComparator"), (1, .class_ 1107), (0, u "java/io/Serializable"), (0, .class_ 1109), (0, u "java/lang/Comparable"), (0, .class_ 1111), (0, u "java/lang/constant/Constable"), (0, .class_ 1113), (0, u "java/lang/constant/ConstantDesc"), (2, u "serialVersionUID"), (0, u "J"), (3, u "REPL"), (0, u "C"), (2, u "LATIN1"), (1, u "UTF16")] 323

def k7m0 : Method := { name := "<init>", desc := "()V", sig := { parameters := [], returnType := none }, accessFlags := 1, code := none }
def k7c1 : Code := { maxStack := 5, maxLocals := 2, code := jdk_42_method_3_code, exceptionTable := #[], attributes := #[] }
def k7m1 : Method := { name := "<init>", desc := "([C)V", sig := { parameters := [(.array .char)], returnType := none }, accessFlags := 1, code := some k7c1 }
def k7c2 : Code := { maxStack := 2, maxLocals := 1, code := jdk_42_method_54_code, exceptionTable := #[], attributes := #[] }
def k7m2 : Method := { name := "length", desc := "()I", sig := { parameters := [], returnType := some .int }, accessFlags := 1, code := some k7c2 }
def k7c3 : Code := { maxStack := 2, maxLocals := 2, code := jdk_42_method_56_code, exceptionTable := #[], attributes := #[] }
def k7m3 : Method := { name := "charAt", desc := "(I)C", sig := { parameters := [.int], returnType := some .char }, accessFlags := 1, code := some k7c3 }
def k7c4 : Code := { maxStack := 1, maxLocals := 1, code := jdk_42_method_129_code, exceptionTable := #[], attributes := #[] }
def k7m4 : Method := { name := "toCharArray", desc := "()[C", sig := { parameters := [], returnType := some (.array .char) }, accessFlags := 1, code := some k7c4 }
def k7c5 : Code := { maxStack := 4, maxLocals := 6, code := jdk_42_method_149_code, exceptionTable := #[], attributes := #[] }
def k7m5 : Method := { name := "<init>", desc := "([CIILjava/lang/Void;)V", sig := { parameters := [(.array .char), .int, .int, (.object "java/lang/Void")], returnType := none }, accessFlags := 2, code := some k7c5 }
def k7c6 : Code := { maxStack := 1, maxLocals := 1, code := jdk_42_method_152_code, exceptionTable := #[], attributes := #[] }
def k7m6 : Method := { name := "coder", desc := "()B", sig := { parameters := [], returnType := some .byte }, accessFlags := 0, code := some k7c6 }
def k7c7 : Code := { maxStack := 1, maxLocals := 1, code := jdk_42_method_154_code, exceptionTable := #[], attributes := #[] }
def k7m7 : Method := { name := "isLatin1", desc := "()Z", sig := { parameters := [], returnType := some .boolean }, accessFlags := 0, code := some k7c7 }
def k7c8 : Code := { maxStack := 3, maxLocals := 2, code := jdk_42_method_155_code, exceptionTable := #[], attributes := #[] }
def k7m8 : Method := { name := "checkIndex", desc := "(II)V", sig := { parameters := [.int, .int], returnType := none }, accessFlags := 8, code := some k7c8 }
def k7c9 : Code := { maxStack := 4, maxLocals := 3, code := jdk_42_method_157_code, exceptionTable := #[], attributes := #[] }
def k7m9 : Method := { name := "checkBoundsOffCount", desc := "(III)I", sig := { parameters := [.int, .int, .int], returnType := some .int }, accessFlags := 8, code := some k7c9 }
/-- java/lang/String -/
def k7 : Class := { plain "java/lang/String" (some 0) with
  accessFlags := 49
  interfaces := #[2, 3, 4, 5, 6]
  cf := some (fileOf pool7 10 #[.nestMembers #[1103]] #[{ accessFlags := 1, nameIndex := 5, descriptorIndex := 6, attributes := #[] }, { accessFlags := 1, nameIndex := 5, descriptorIndex := 1010, attributes := #[] }, { accessFlags := 1, nameIndex := 507, descriptorIndex := 334, attributes := #[] }, { accessFlags := 1, nameIndex := 497, descriptorIndex := 427, attributes := #[] }, { accessFlags := 1, nameIndex := 955, descriptorIndex := 956, attributes := #[] }, { accessFlags := 2, nameIndex := 5, descriptorIndex := 29, attributes := #[] }, { accessFlags := 0, nameIndex := 17, descriptorIndex := 337, attributes := #[] }, { accessFlags := 0, nameIndex := 494, descriptorIndex := 142, attributes := #[] }, { accessFlags := 8, nameIndex := 501, descriptorIndex := 391, attributes := #[] }, { accessFlags := 8, nameIndex := 36, descriptorIndex := 37, attributes := #[] }] 49 2 #[1106, 1108, 575, 1110, 1112] #[{ accessFlags := 18, nameIndex := 13, descriptorIndex := 14, attributes := #[] }, { accessFlags := 18, nameIndex := 17, descriptorIndex := 18, attributes := #[] }, { accessFlags := 2, nameIndex := 21, descriptorIndex := 22, attributes := #[] }, { accessFlags := 2, nameIndex := 25, descriptorIndex := 26, attributes := #[] }, { accessFlags := 26, nameIndex := 1116, descriptorIndex := 1117, attributes := #[] }, { accessFlags := 24, nameIndex := 40, descriptorIndex := 26, attributes := #[] }, { accessFlags := 26, nameIndex := 1101, descriptorIndex := 1102, attributes := #[] }, { accessFlags := 26, nameIndex := 1121, descriptorIndex := 1122, attributes := #[] }, { accessFlags := 25, nameIndex := 599, descriptorIndex := 600, attributes := #[] }, { accessFlags := 24, nameIndex := 1125, descriptorIndex := 18, attributes := #[] }, { accessFlags := 24, nameIndex := 1127, descriptorIndex := 18, attributes := #[] }])
  fields := #[{ name := "value", type := (.array .byte), accessFlags := 18, slot := 0, constantValue := 0 }, { name := "coder", type := .byte, accessFlags := 18, slot := 1, constantValue := 0 }, { name := "hash", type := .int, accessFlags := 2, slot := 2, constantValue := 0 }, { name := "hashIsZero", type := .boolean, accessFlags := 2, slot := 3, constantValue := 0 }, { name := "serialVersionUID", type := .long, accessFlags := 26, slot := 0, constantValue := 0 }, { name := "COMPACT_STRINGS", type := .boolean, accessFlags := 24, slot := 1, constantValue := 0 }, { name := "serialPersistentFields", type := (.array (.object "java/io/ObjectStreamField")), accessFlags := 26, slot := 2, constantValue := 0 }, { name := "REPL", type := .char, accessFlags := 26, slot := 3, constantValue := 0 }, { name := "CASE_INSENSITIVE_ORDER", type := (.object "java/util/Comparator"), accessFlags := 25, slot := 4, constantValue := 0 }, { name := "LATIN1", type := .byte, accessFlags := 24, slot := 5, constantValue := 0 }, { name := "UTF16", type := .byte, accessFlags := 24, slot := 6, constantValue := 0 }]
  methods := #[k7m0, k7m1, k7m2, k7m3, k7m4, k7m5, k7m6, k7m7, k7m8, k7m9]
  instanceTypes := #[(.array .byte), .byte, .int, .boolean]
  staticTypes := #[.long, .boolean, (.array (.object "java/io/ObjectStreamField")), .char, (.object "java/util/Comparator"), .byte, .byte]
  resolved := Array.replicate 1451 none
  statics := some 0 }

def pool8 : Array CpInfo := pool [(2, .class_ 4), (1, u "java/lang/Object"), (0, u "<init>"), (0, u "()V"), (0, .methodref 8 9), (0, .class_ 10), (0, .nameAndType 11 12), (0, u "java/lang/String"), (0, u "toCharArray"), (0, u "()[C"), (0, .methodref 14 15), (0, .class_ 16), (0, .nameAndType 17 18), (0, u "com/example/colonnade/colonnade/TokenValues"), (0, u "asciiLowerCase"), (0, u "(C)C"), (0, .methodref 8 20), (0, .nameAndType 5 21), (0, u "([C)V"), (13, .class_ 36), (0, u "com/example/colonnade/colonnade/TokenValues$InvalidToken"), (45, .class_ 83), (0, u "com/example/colonnade/colonnade/TokenValues$Undoubled"), (26, .class_ 112), (1, u "com/example/colonnade/colonnade/TokenValues$NumberSize"), (40, u "ZERO_LENGTH_NAME"), (0, u "Ljava/lang/String;"), (3, u "INVALID_SURROGATE_PAIR"), (4, u "(Ljava/lang/String;)Ljava/lang/String;")] 31

def k8m0 : Method := { name := "<init>", desc := "()V", sig := { parameters := [], returnType := none }, accessFlags := 2, code := none }
def k8c1 : Code := { maxStack := 4, maxLocals := 3, code := prog_106_method_2_code, exceptionTable := #[], attributes := #[] }
def k8m1 : Method := { name := "asciiLowerCase", desc := "(Ljava/lang/String;)Ljava/lang/String;", sig := { parameters := [(.object "java/lang/String")], returnType := some (.object "java/lang/String") }, accessFlags := 8, code := some k8c1 }
def k8c2 : Code := { maxStack := 2, maxLocals := 1, code := prog_106_method_4_code, exceptionTable := #[], attributes := #[] }
def k8m2 : Method := { name := "asciiLowerCase", desc := "(C)C", sig := { parameters := [.char], returnType := some .char }, accessFlags := 8, code := some k8c2 }
/-- com/example/colonnade/colonnade/TokenValues -/
def k8 : Class := { plain "com/example/colonnade/colonnade/TokenValues" (some 0) with
  accessFlags := 48
  interfaces := #[]
  cf := some (fileOf pool8 14 #[.nestMembers #[82, 110, 35]] #[{ accessFlags := 2, nameIndex := 5, descriptorIndex := 6, attributes := #[] }, { accessFlags := 8, nameIndex := 17, descriptorIndex := 163, attributes := #[] }, { accessFlags := 8, nameIndex := 17, descriptorIndex := 18, attributes := #[] }] 48 2 #[] #[{ accessFlags := 24, nameIndex := 153, descriptorIndex := 154, attributes := #[] }, { accessFlags := 24, nameIndex := 158, descriptorIndex := 154, attributes := #[] }])
  fields := #[{ name := "ZERO_LENGTH_NAME", type := (.object "java/lang/String"), accessFlags := 24, slot := 0, constantValue := 0 }, { name := "INVALID_SURROGATE_PAIR", type := (.object "java/lang/String"), accessFlags := 24, slot := 1, constantValue := 0 }]
  methods := #[k8m0, k8m1, k8m2]
  instanceTypes := #[]
  staticTypes := #[(.object "java/lang/String"), (.object "java/lang/String")]
  resolved := Array.replicate 195 none
  statics := none }

def pool9 : Array CpInfo := pool [(1, .class_ 2), (0, u "java/lang/String"), (1, .class_ 6), (1, u "java/lang/Object"), (0, u "<init>"), (0, u "()V"), (0, .methodref 1 10), (0, .nameAndType 11 12), (0, u "checkIndex"), (0, u "(II)V"), (0, .methodref 14 15), (0, .class_ 16), (0, .nameAndType 17 18), (0, u "java/lang/StringLatin1"), (0, u "inflate"), (0, u "([BI[CII)V"), (34, u "([BI)C"), (67, u "$assertionsDisabled"), (0, u "Z"), (69, u "toChars"), (28, .class_ 223), (1, u "java/lang/StringLatin1$LinesSpliterator"), (28, u "charAt"), (15, u "([B)[C"), (121, .class_ 391), (0, u "java/lang/StringLatin1$CharsSpliterator")] 3

def k9m0 : Method := { name := "<init>", desc := "()V", sig := { parameters := [], returnType := none }, accessFlags := 0, code := none }
def k9c1 : Code := { maxStack := 2, maxLocals := 2, code := jdk_43_method_2_code, exceptionTable := #[], attributes := #[] }
def k9m1 : Method := { name := "charAt", desc := "([BI)C", sig := { parameters := [(.array .byte), .int], returnType := some .char }, accessFlags := 9, code := some k9c1 }
def k9c2 : Code := { maxStack := 5, maxLocals := 2, code := jdk_43_method_9_code, exceptionTable := #[], attributes := #[] }
def k9m2 : Method := { name := "toChars", desc := "([B)[C", sig := { parameters := [(.array .byte)], returnType := some (.array .char) }, accessFlags := 9, code := some k9c2 }
def k9c3 : Code := { maxStack := 4, maxLocals := 6, code := jdk_43_method_49_code, exceptionTable := #[], attributes := #[] }
def k9m3 : Method := { name := "inflate", desc := "([BI[CII)V", sig := { parameters := [(.array .byte), .int, (.array .char), .int, .int], returnType := none }, accessFlags := 9, code := some k9c3 }
/-- java/lang/StringLatin1 -/
def k9 : Class := { plain "java/lang/StringLatin1" (some 0) with
  accessFlags := 48
  interfaces := #[]
  cf := some (fileOf pool9 14 #[.nestMembers #[390, 221]] #[{ accessFlags := 0, nameIndex := 7, descriptorIndex := 8, attributes := #[] }, { accessFlags := 9, nameIndex := 252, descriptorIndex := 53, attributes := #[] }, { accessFlags := 9, nameIndex := 192, descriptorIndex := 268, attributes := #[] }, { accessFlags := 9, nameIndex := 17, descriptorIndex := 18, attributes := #[] }] 48 4 #[] #[{ accessFlags := 4120, nameIndex := 121, descriptorIndex := 122, attributes := #[] }])
  fields := #[{ name := "$assertionsDisabled", type := .boolean, accessFlags := 4120, slot := 0, constantValue := 0 }]
  methods := #[k9m0, k9m1, k9m2, k9m3]
  instanceTypes := #[]
  staticTypes := #[.boolean]
  resolved := Array.replicate 395 none
  statics := none }

def pool10 : Array CpInfo := pool [(3, .class_ 4), (0, u "java/lang/String"), (1, .class_ 8), (1, u "java/lang/Object"), (0, u "<init>"), (0, u "()V"), (0, .methodref 12 13), (0, .class_ 14), (0, .nameAndType 15 16), (0, u "java/lang/StringUTF16"), (0, u "newBytesLength"), (0, u "(I)I"), (3, .integer 1073741823), (23, .fieldref 12 45), (0, .nameAndType 46 47), (0, u "$assertionsDisabled"), (0, u "Z"), (0, .methodref 12 49), (0, .nameAndType 50 51), (0, u "length"), (0, u "([B)I"), (7, .fieldref 12 60), (0, .nameAndType 61 62), (0, u "HI_BYTE_SHIFT"), (0, u "I"), (0, .fieldref 12 64), (0, .nameAndType 65 62), (0, u "LO_BYTE_SHIFT"), (1, .methodref 12 68), (0, .nameAndType 69 70), (0, u "checkIndex"), (0, u "(I[B)V"), (0, .methodref 12 72), (0, .nameAndType 73 74), (0, u "getChar"), (0, u "([BI)C"), (24, u "(II[B)V"), (3, .methodref 12 104), (0, .nameAndType 105 106), (0, u "getChars"), (0, u "([BII[CI)V"), (0, .methodref 12 108), (0, .nameAndType 109 110), (0, u "newBytesFor"), (0, u "(I)[B"), (0, .methodref 12 112), (0, .nameAndType 113 114), (0, u "putChar"), (0, u "([BII)V"), (0, .methodref 12 116), (0, .nameAndType 117 118), (0, u "compress"), (0, u "([CI[BII)I"), (0, .methodref 12 120), (0, .nameAndType 121 122), (0, u "toBytes"), (0, u "([CII)[B"), (50, .methodref 12 174), (0, .nameAndType 175 99), (0, u "checkBoundsOffCount"), (85, u "coderFromArrayLen"), (0, u "([BI)B"), (18, u "(III)I"), (60, u "toChars"), (26, .class_ 371), (1, u "java/lang/StringUTF16$LinesSpliterator"), (20, u "charAt"), (21, .methodref 3 415), (0, .nameAndType 69 416), (0, u "(II)V"), (2, .methodref 3 420), (0, .nameAndType 175 281), (9, u "MAX_LENGTH"), (23, u "([B)[C"), (172, .class_ 628), (0, u "java/lang/StringUTF16$CodePointsSpliterator"), (0, .class_ 630), (0, u "java/lang/StringUTF16$CharsSpliterator")] 4

def k10m0 : Method := { name := "<init>", desc := "()V", sig := { parameters := [], returnType := none }, accessFlags := 0, code := none }
def k10c1 : Code := { maxStack := 1, maxLocals := 1, code := jdk_52_method_2_code, exceptionTable := #[], attributes := #[] }
def k10m1 : Method := { name := "newBytesFor", desc := "(I)[B", sig := { parameters := [.int], returnType := some (.array .byte) }, accessFlags := 9, code := some k10c1 }
def k10c2 : Code := { maxStack := 4, maxLocals := 1, code := jdk_52_method_3_code, exceptionTable := #[], attributes := #[] }
def k10m2 : Method := { name := "newBytesLength", desc := "(I)I", sig := { parameters := [.int], returnType := some .int }, accessFlags := 9, code := some k10c2 }
def k10c3 : Code := { maxStack := 4, maxLocals := 3, code := jdk_52_method_4_code, exceptionTable := #[], attributes := #[] }
def k10m3 : Method := { name := "putChar", desc := "([BII)V", sig := { parameters := [(.array .byte), .int, .int], returnType := none }, accessFlags := 8, code := some k10c3 }
def k10c4 : Code := { maxStack := 3, maxLocals := 2, code := jdk_52_method_5_code, exceptionTable := #[], attributes := #[] }
def k10m4 : Method := { name := "getChar", desc := "([BI)C", sig := { parameters := [(.array .byte), .int], returnType := some .char }, accessFlags := 8, code := some k10c4 }
def k10c5 : Code := { maxStack := 2, maxLocals := 1, code := jdk_52_method_6_code, exceptionTable := #[], attributes := #[] }
def k10m5 : Method := { name := "length", desc := "([B)I", sig := { parameters := [(.array .byte)], returnType := some .int }, accessFlags := 9, code := some k10c5 }
def k10c6 : Code := { maxStack := 5, maxLocals := 2, code := jdk_52_method_13_code, exceptionTable := #[], attributes := #[] }
def k10m6 : Method := { name := "toChars", desc := "([B)[C", sig := { parameters := [(.array .byte)], returnType := some (.array .char) }, accessFlags := 9, code := some k10c6 }
def k10c7 : Code := { maxStack := 4, maxLocals := 5, code := jdk_52_method_14_code, exceptionTable := #[], attributes := #[] }
def k10m7 : Method := { name := "toBytes", desc := "([CII)[B", sig := { parameters := [(.array .char), .int, .int], returnType := some (.array .byte) }, accessFlags := 9, code := some k10c7 }
def k10c8 : Code := { maxStack := 2, maxLocals := 2, code := jdk_52_method_15_code, exceptionTable := #[], attributes := #[] }
def k10m8 : Method := { name := "coderFromArrayLen", desc := "([BI)B", sig := { parameters := [(.array .byte), .int], returnType := some .byte }, accessFlags := 8, code := some k10c8 }
def k10c9 : Code := { maxStack := 5, maxLocals := 6, code := jdk_52_method_16_code, exceptionTable := #[], attributes := #[] }
def k10m9 : Method := { name := "compress", desc := "([CII)[B", sig := { parameters := [(.array .char), .int, .int], returnType := some (.array .byte) }, accessFlags := 9, code := some k10c9 }
def k10c10 : Code := { maxStack := 3, maxLocals := 7, code := jdk_52_method_21_code, exceptionTable := #[], attributes := #[] }
def k10m10 : Method := { name := "compress", desc := "([CI[BII)I", sig := { parameters := [(.array .char), .int, (.array .byte), .int, .int], returnType := some .int }, accessFlags := 9, code := some k10c10 }
def k10c11 : Code := { maxStack := 4, maxLocals := 6, code := jdk_52_method_26_code, exceptionTable := #[], attributes := #[] }
def k10m11 : Method := { name := "getChars", desc := "([BII[CI)V", sig := { parameters := [(.array .byte), .int, .int, (.array .char), .int], returnType := none }, accessFlags := 9, code := some k10c11 }
def k10c12 : Code := { maxStack := 2, maxLocals := 2, code := jdk_52_method_83_code, exceptionTable := #[], attributes := #[] }
def k10m12 : Method := { name := "charAt", desc := "([BI)C", sig := { parameters := [(.array .byte), .int], returnType := some .char }, accessFlags := 9, code := some k10c12 }
def k10c13 : Code := { maxStack := 2, maxLocals := 2, code := jdk_52_method_91_code, exceptionTable := #[], attributes := #[] }
def k10m13 : Method := { name := "checkIndex", desc := "(I[B)V", sig := { parameters := [.int, (.array .byte)], returnType := none }, accessFlags := 9, code := some k10c13 }
def k10c14 : Code := { maxStack := 3, maxLocals := 3, code := jdk_52_method_94_code, exceptionTable := #[], attributes := #[] }
def k10m14 : Method := { name := "checkBoundsOffCount", desc := "(II[B)V", sig := { parameters := [.int, .int, (.array .byte)], returnType := none }, accessFlags := 9, code := some k10c14 }
/-- java/lang/StringUTF16 -/
def k10 : Class := { plain "java/lang/StringUTF16" (some 0) with
  accessFlags := 48
  interfaces := #[]
  cf := some (fileOf pool10 12 #[.nestMembers #[627, 629, 369]] #[{ accessFlags := 0, nameIndex := 9, descriptorIndex := 10, attributes := #[] }, { accessFlags := 9, nameIndex := 109, descriptorIndex := 110, attributes := #[] }, { accessFlags := 9, nameIndex := 15, descriptorIndex := 16, attributes := #[] }, { accessFlags := 8, nameIndex := 113, descriptorIndex := 114, attributes := #[] }, { accessFlags := 8, nameIndex := 73, descriptorIndex := 74, attributes := #[] }, { accessFlags := 9, nameIndex := 50, descriptorIndex := 51, attributes := #[] }, { accessFlags := 9, nameIndex := 342, descriptorIndex := 454, attributes := #[] }, { accessFlags := 9, nameIndex := 121, descriptorIndex := 122, attributes := #[] }, { accessFlags := 8, nameIndex := 261, descriptorIndex := 262, attributes := #[] }, { accessFlags := 9, nameIndex := 117, descriptorIndex := 122, attributes := #[] }, { accessFlags := 9, nameIndex := 117, descriptorIndex := 118, attributes := #[] }, { accessFlags := 9, nameIndex := 105, descriptorIndex := 106, attributes := #[] }, { accessFlags := 9, nameIndex := 392, descriptorIndex := 74, attributes := #[] }, { accessFlags := 9, nameIndex := 69, descriptorIndex := 70, attributes := #[] }, { accessFlags := 9, nameIndex := 175, descriptorIndex := 99, attributes := #[] }] 48 6 #[] #[{ accessFlags := 26, nameIndex := 61, descriptorIndex := 62, attributes := #[] }, { accessFlags := 26, nameIndex := 65, descriptorIndex := 62, attributes := #[] }, { accessFlags := 24, nameIndex := 430, descriptorIndex := 62, attributes := #[] }, { accessFlags := 4120, nameIndex := 46, descriptorIndex := 47, attributes := #[] }])
  fields := #[{ name := "HI_BYTE_SHIFT", type := .int, accessFlags := 26, slot := 0, constantValue := 0 }, { name := "LO_BYTE_SHIFT", type := .int, accessFlags := 26, slot := 1, constantValue := 0 }, { name := "MAX_LENGTH", type := .int, accessFlags := 24, slot := 2, constantValue := 0 }, { name := "$assertionsDisabled", type := .boolean, accessFlags := 4120, slot := 3, constantValue := 0 }]
  methods := #[k10m0, k10m1, k10m2, k10m3, k10m4, k10m5, k10m6, k10m7, k10m8, k10m9, k10m10, k10m11, k10m12, k10m13, k10m14]
  instanceTypes := #[]
  staticTypes := #[.int, .int, .int, .boolean]
  resolved := Array.replicate 635 none
  statics := some 1 }

def pool11 : Array CpInfo := pool [(2, .class_ 4), (1, u "java/lang/Object"), (0, u "<init>"), (0, u "()V"), (17, .class_ 26), (1, u "jdk/internal/util/Preconditions"), (6, u "checkIndex"), (15, u "checkFromIndexSize"), (5, .class_ 56), (0, u "jdk/internal/util/Preconditions$4"), (57, .class_ 115), (0, u "jdk/internal/util/Preconditions$1"), (7, u "SIOOBE_FORMATTER"), (0, u "Ljava/util/function/BiFunction;"), (0, .class_ 126), (0, u "jdk/internal/util/Preconditions$2"), (3, u "AIOOBE_FORMATTER"), (0, .class_ 132), (0, u "jdk/internal/util/Preconditions$3"), (3, u "IOOBE_FORMATTER"), (41, u "(IILjava/util/function/BiFunction;)I"), (4, u "(IIILjava/util/function/BiFunction;)I")] 10

def k11m0 : Method := { name := "<init>", desc := "()V", sig := { parameters := [], returnType := none }, accessFlags := 1, code := none }
def k11c1 : Code := { maxStack := 3, maxLocals := 3, code := jdk_41_method_11_code, exceptionTable := #[], attributes := #[] }
def k11m1 : Method := { name := "checkIndex", desc := "(IILjava/util/function/BiFunction;)I", sig := { parameters := [.int, .int, (.object "java/util/function/BiFunction")], returnType := some .int }, accessFlags := 9, code := some k11c1 }
def k11c2 : Code := { maxStack := 4, maxLocals := 4, code := jdk_41_method_13_code, exceptionTable := #[], attributes := #[] }
def k11m2 : Method := { name := "checkFromIndexSize", desc := "(IIILjava/util/function/BiFunction;)I", sig := { parameters := [.int, .int, .int, (.object "java/util/function/BiFunction")], returnType := some .int }, accessFlags := 9, code := some k11c2 }
/-- jdk/internal/util/Preconditions -/
def k11 : Class := { plain "jdk/internal/util/Preconditions" (some 0) with
  accessFlags := 33
  interfaces := #[]
  cf := some (fileOf pool11 24 #[.nestMembers #[55, 131, 125, 114]] #[{ accessFlags := 1, nameIndex := 5, descriptorIndex := 6, attributes := #[] }, { accessFlags := 9, nameIndex := 33, descriptorIndex := 178, attributes := #[] }, { accessFlags := 9, nameIndex := 49, descriptorIndex := 183, attributes := #[] }] 33 2 #[] #[{ accessFlags := 25, nameIndex := 123, descriptorIndex := 124, attributes := #[] }, { accessFlags := 25, nameIndex := 130, descriptorIndex := 124, attributes := #[] }, { accessFlags := 25, nameIndex := 136, descriptorIndex := 124, attributes := #[] }])
  fields := #[{ name := "SIOOBE_FORMATTER", type := (.object "java/util/function/BiFunction"), accessFlags := 25, slot := 0, constantValue := 0 }, { name := "AIOOBE_FORMATTER", type := (.object "java/util/function/BiFunction"), accessFlags := 25, slot := 1, constantValue := 0 }, { name := "IOOBE_FORMATTER", type := (.object "java/util/function/BiFunction"), accessFlags := 25, slot := 2, constantValue := 0 }]
  methods := #[k11m0, k11m1, k11m2]
  instanceTypes := #[]
  staticTypes := #[(.object "java/util/function/BiFunction"), (.object "java/util/function/BiFunction"), (.object "java/util/function/BiFunction")]
  resolved := Array.replicate 194 none
  statics := some 2 }

def pool12 : Array CpInfo := pool [(9, u "<init>"), (6, .class_ 18), (1, u "java/lang/Object"), (0, u "()V"), (1, .class_ 23), (1, u "jdk/internal/util/ArraysSupport"), (0, u "LOG2_ARRAY_LONG_INDEX_SCALE"), (0, u "I"), (2, u "U"), (0, u "Ljdk/internal/misc/Unsafe;"), (8, u "BIG_ENDIAN"), (0, u "Z"), (8, u "LOG2_BYTE_BIT_SIZE"), (4, u "LOG2_ARRAY_INT_INDEX_SCALE"), (54, u "JLA"), (0, u "Ljdk/internal/access/JavaLangAccess;"), (11, u "LOG2_ARRAY_BOOLEAN_INDEX_SCALE"), (9, u "LOG2_ARRAY_BYTE_INDEX_SCALE"), (5, u "LOG2_ARRAY_CHAR_INDEX_SCALE"), (5, u "LOG2_ARRAY_SHORT_INDEX_SCALE"), (18, u "LOG2_ARRAY_FLOAT_INDEX_SCALE"), (24, u "LOG2_ARRAY_DOUBLE_INDEX_SCALE"), (89, u "T_BOOLEAN"), (2, u "T_CHAR"), (1, u "T_FLOAT"), (1, u "T_DOUBLE"), (1, u "T_BYTE"), (1, u "T_SHORT"), (1, u "T_INT"), (1, u "T_LONG"), (1, u "SOFT_MAX_ARRAY_LENGTH")] 83

def k12m0 : Method := { name := "<init>", desc := "()V", sig := { parameters := [], returnType := none }, accessFlags := 2, code := none }
/-- jdk/internal/util/ArraysSupport -/
def k12 : Class := { plain "jdk/internal/util/ArraysSupport" (some 0) with
  accessFlags := 33
  interfaces := #[]
  cf := some (fileOf pool12 21 #[] #[{ accessFlags := 2, nameIndex := 9, descriptorIndex := 19, attributes := #[] }] 33 16 #[] #[{ accessFlags := 24, nameIndex := 28, descriptorIndex := 29, attributes := #[] }, { accessFlags := 26, nameIndex := 38, descriptorIndex := 39, attributes := #[] }, { accessFlags := 25, nameIndex := 121, descriptorIndex := 25, attributes := #[] }, { accessFlags := 25, nameIndex := 131, descriptorIndex := 25, attributes := #[] }, { accessFlags := 25, nameIndex := 137, descriptorIndex := 25, attributes := #[] }, { accessFlags := 25, nameIndex := 143, descriptorIndex := 25, attributes := #[] }, { accessFlags := 25, nameIndex := 53, descriptorIndex := 25, attributes := #[] }, { accessFlags := 25, nameIndex := 24, descriptorIndex := 25, attributes := #[] }, { accessFlags := 25, nameIndex := 162, descriptorIndex := 25, attributes := #[] }, { accessFlags := 25, nameIndex := 187, descriptorIndex := 25, attributes := #[] }, { accessFlags := 26, nameIndex := 48, descriptorIndex := 25, attributes := #[] }, { accessFlags := 25, nameIndex := 277, descriptorIndex := 25, attributes := #[] }, { accessFlags := 25, nameIndex := 280, descriptorIndex := 25, attributes := #[] }, { accessFlags := 25, nameIndex := 282, descriptorIndex := 25, attributes := #[] }, { accessFlags := 25, nameIndex := 284, descriptorIndex := 25, attributes := #[] }, { accessFlags := 25, nameIndex := 286, descriptorIndex := 25, attributes := #[] }, { accessFlags := 25, nameIndex := 288, descriptorIndex := 25, attributes := #[] }, { accessFlags := 25, nameIndex := 290, descriptorIndex := 25, attributes := #[] }, { accessFlags := 25, nameIndex := 292, descriptorIndex := 25, attributes := #[] }, { accessFlags := 26, nameIndex := 108, descriptorIndex := 109, attributes := #[] }, { accessFlags := 25, nameIndex := 294, descriptorIndex := 25, attributes := #[] }])
  fields := #[{ name := "U", type := (.object "jdk/internal/misc/Unsafe"), accessFlags := 24, slot := 0, constantValue := 0 }, { name := "BIG_ENDIAN", type := .boolean, accessFlags := 26, slot := 1, constantValue := 0 }, { name := "LOG2_ARRAY_BOOLEAN_INDEX_SCALE", type := .int, accessFlags := 25, slot := 2, constantValue := 0 }, { name := "LOG2_ARRAY_BYTE_INDEX_SCALE", type := .int, accessFlags := 25, slot := 3, constantValue := 0 }, { name := "LOG2_ARRAY_CHAR_INDEX_SCALE", type := .int, accessFlags := 25, slot := 4, constantValue := 0 }, { name := "LOG2_ARRAY_SHORT_INDEX_SCALE", type := .int, accessFlags := 25, slot := 5, constantValue := 0 }, { name := "LOG2_ARRAY_INT_INDEX_SCALE", type := .int, accessFlags := 25, slot := 6, constantValue := 0 }, { name := "LOG2_ARRAY_LONG_INDEX_SCALE", type := .int, accessFlags := 25, slot := 7, constantValue := 0 }, { name := "LOG2_ARRAY_FLOAT_INDEX_SCALE", type := .int, accessFlags := 25, slot := 8, constantValue := 0 }, { name := "LOG2_ARRAY_DOUBLE_INDEX_SCALE", type := .int, accessFlags := 25, slot := 9, constantValue := 0 }, { name := "LOG2_BYTE_BIT_SIZE", type := .int, accessFlags := 26, slot := 10, constantValue := 0 }, { name := "T_BOOLEAN", type := .int, accessFlags := 25, slot := 11, constantValue := 0 }, { name := "T_CHAR", type := .int, accessFlags := 25, slot := 12, constantValue := 0 }, { name := "T_FLOAT", type := .int, accessFlags := 25, slot := 13, constantValue := 0 }, { name := "T_DOUBLE", type := .int, accessFlags := 25, slot := 14, constantValue := 0 }, { name := "T_BYTE", type := .int, accessFlags := 25, slot := 15, constantValue := 0 }, { name := "T_SHORT", type := .int, accessFlags := 25, slot := 16, constantValue := 0 }, { name := "T_INT", type := .int, accessFlags := 25, slot := 17, constantValue := 0 }, { name := "T_LONG", type := .int, accessFlags := 25, slot := 18, constantValue := 0 }, { name := "JLA", type := (.object "jdk/internal/access/JavaLangAccess"), accessFlags := 26, slot := 19, constantValue := 0 }, { name := "SOFT_MAX_ARRAY_LENGTH", type := .int, accessFlags := 25, slot := 20, constantValue := 0 }]
  methods := #[k12m0]
  instanceTypes := #[]
  staticTypes := #[(.object "jdk/internal/misc/Unsafe"), .boolean, .int, .int, .int, .int, .int, .int, .int, .int, .int, .int, .int, .int, .int, .int, .int, .int, .int, (.object "jdk/internal/access/JavaLangAccess"), .int]
  resolved := Array.replicate 378 none
  statics := none }

def pool13 : Array CpInfo := pool [(1, u "java/lang/Cloneable"), (0, .class_ 1), (0, u "java/lang/Object"), (0, .class_ 3)] 3

/-- java/lang/Cloneable -/
def k13 : Class := { plain "java/lang/Cloneable" (some 0) with
  accessFlags := 1537
  interfaces := #[]
  cf := some (fileOf pool13 2 #[] #[] 1537 4 #[] #[])
  fields := #[]
  methods := #[]
  instanceTypes := #[]
  staticTypes := #[]
  resolved := Array.replicate 8 none
  statics := none }

/-- the primitive byte -/
def k14 : Class := { plain "byte" none with kind := .primitive 'B', accessFlags := 0x411 }
/-- [B -/
def k15 : Class := { plain "[B" (some 0) with kind := .array 14 .byte, interfaces := #[13, 2], accessFlags := 1041 }

/-- the primitive char -/
def k16 : Class := { plain "char" none with kind := .primitive 'C', accessFlags := 0x411 }
/-- [C -/
def k17 : Class := { plain "[C" (some 0) with kind := .array 16 .char, interfaces := #[13, 2], accessFlags := 1041 }

/-- the primitive int -/
def k18 : Class := { plain "int" none with kind := .primitive 'I', accessFlags := 0x411 }
/-- [I -/
def k19 : Class := { plain "[I" (some 0) with kind := .array 18 .int, interfaces := #[13, 2], accessFlags := 1041 }

def heap : Heap := #[{ cls := 7, slots := #[.long 0, .int 1, .null, .int 0, .null, .int 0, .int 0], vm := .statics 7 },
  { cls := 10, slots := #[.int 0, .int 8, .int 0, .int 1], vm := .statics 10 },
  { cls := 11, slots := #[.null, .null, .null], vm := .statics 11 }]
def classes : Array Class := #[k0, k1, k2, k3, k4, k5, k6, k7, k8, k9, k10, k11, k12, k13, k14, k15, k16, k17, k18, k19]
def interned : List (Array UInt16 × Addr) := []
def slotsUsed : Nat := 14
def theMethod : MethodId := ⟨1, 3⟩
def args0 : Array Value := #[.int 5, .int 5, .int 5, .int 5, .int 5, .int 5]
def aboutOver (below : List Frame) : State where
  vm := { classes := classes, interned := interned.toArray }
  heap := heap
  slotsUsed := slotsUsed
  threads := #[{ frames := .invoking theMethod args0 :: below }]
def below0 : List Frame := [.native { method := ⟨0, 0⟩, args := #[] }]
def about1 : State := aboutOver below0
def p0 : Program := .bare "" "" ""
def e0 : Env := launch0.env 0 0 0
theorem w_frames : about1.frames = Frame.invoking theMethod args0 :: below0 := rfl
set_option maxRecDepth 65536 in
theorem w_args : argsFit about1.vm theMethod args0 = true := by decide +kernel
set_option maxRecDepth 65536 in
theorem w_heap : heapFits about1 = true := by decide +kernel
set_option maxRecDepth 65536 in
theorem w_runnable : about1.curStatus? = some .runnable := by decide +kernel
set_option maxRecDepth 65536 in
theorem w_alone : about1.alone = true := by decide +kernel
set_option maxRecDepth 65536 in
theorem w_named : about1.methodNamed? x = some theMethod := by decide +kernel
set_option maxRecDepth 65536 in
theorem w_hears : about1.hears theMethod below0 = true := by decide +kernel
set_option maxRecDepth 65536 in
theorem w_ripe : about1.ripe theMethod args0 below0 = true := by decide +kernel
theorem w_running : about1.status = .running := rfl
set_option maxRecDepth 65536 in
theorem w_room : about1.hasRoom e0.platform room_1 = true :=
  launch0.hasRoom_least _ room_1 (by decide +kernel) (by decide +kernel) (by decide +kernel) (by decide +kernel) (by decide +kernel) (by decide +kernel)
theorem allAtoms_all (ts : List Jvm.Cond) (a : Array Jvm.Value) (st : Jvm.State) : (allAtoms ts).before a st = ts.all (fun c => c.before a st) := by
  induction ts with
  | nil => rfl
  | cons c t ih =>
    show (Jvm.Cond.and c (allAtoms t)).before a st = _
    rw [Jvm.Cond.before_and, ih, List.all_cons]
def words1 : List Jvm.Cond := Jvm.Cond.code x code maxLocals ret :: tables_1
/-- a 'code' word, met by the world's own term for the bytes: nothing is compared byte by byte -/
theorem code_word {y : MethodName} {bytes : ByteArray} {mx : Nat} {rt : Option FieldType} {a : Array Value} {s : State} {m : MethodId} {meth : Method} {c : Code} (h1 : s.methodNamed? y = some m) (h2 : s.vm.method? m = some meth) (h3 : meth.code = some c) (h4 : c.code = bytes)
    (h5 : (c.maxLocals == mx && c.exceptionTable.isEmpty && decide (c.maxStack ≤ mostOperands) && decide (meth.sig.returnType = rt) && !meth.locks && decide (parseMethodDescriptor y.desc = some meth.sig)) = true) : (Jvm.Cond.code y bytes mx rt).before a s = true := by
  simp only [Bool.and_eq_true, beq_iff_eq, Bool.not_eq_true', decide_eq_true_eq] at h5
  obtain ⟨⟨⟨⟨⟨g1, g2⟩, g3⟩, g4⟩, g5⟩, g6⟩ := h5
  simp [Cond.before, Cond.holds, Cond.value, h1, h2, h3, h4, g1, g2, g3, g4, g5, g6]
def isCode : Jvm.Cond → Bool
  | .code _ _ _ _ => true
  | _ => false
theorem all_split {L : List Jvm.Cond} {P : Jvm.Cond → Bool} (h1 : L.all (fun c => isCode c || P c) = true) (h2 : ∀ c ∈ L.filter isCode, P c = true) : L.all P = true := by
  refine List.all_eq_true.mpr fun c hc => ?_
  have h := List.all_eq_true.mp h1 c hc
  rcases Bool.eq_false_or_eq_true (isCode c) with hi | hi
  · exact h2 c (List.mem_filter.mpr ⟨hc, hi⟩)
  · simpa [hi] using h
set_option maxRecDepth 65536 in
theorem w_c0 : (Jvm.Cond.code x code maxLocals ret).before args0 about1 = true := code_word (m := ⟨1, 3⟩) (meth := k1m3) (c := k1c3) (by decide +kernel) rfl rfl rfl (by decide +kernel)
set_option maxRecDepth 65536 in
theorem w_c1 : (Jvm.Cond.code ({ cls := "com/example/colonnade/colonnade/TokenValuesAsciiLowerCasePinLaw", name := "make", desc := "(ICCCCC)Ljava/lang/String;" } : Jvm.MethodName) method_3_code (6 : Nat) (Option.some (Jvm.ClassFile.FieldType.object "java/lang/String"))).before args0 about1 = true := code_word (m := ⟨1, 2⟩) (meth := k1m2) (c := k1c2) (by decide +kernel) rfl rfl rfl (by decide +kernel)
set_option maxRecDepth 65536 in
theorem w_c2 : (Jvm.Cond.code ({ cls := "java/lang/String", name := "<init>", desc := "([C)V" } : Jvm.MethodName) jdk_42_method_3_code (2 : Nat) (Option.none : Option Jvm.ClassFile.FieldType)).before args0 about1 = true := code_word (m := ⟨7, 1⟩) (meth := k7m1) (c := k7c1) (by decide +kernel) rfl rfl rfl (by decide +kernel)
set_option maxRecDepth 65536 in
theorem w_c3 : (Jvm.Cond.code ({ cls := "java/lang/String", name := "<init>", desc := "([CIILjava/lang/Void;)V" } : Jvm.MethodName) jdk_42_method_149_code (6 : Nat) (Option.none : Option Jvm.ClassFile.FieldType)).before args0 about1 = true := code_word (m := ⟨7, 5⟩) (meth := k7m5) (c := k7c5) (by decide +kernel) rfl rfl rfl (by decide +kernel)
set_option maxRecDepth 65536 in
theorem w_c4 : (Jvm.Cond.code ({ cls := "java/lang/Object", name := "<init>", desc := "()V" } : Jvm.MethodName) object_method_1_code (1 : Nat) (Option.none : Option Jvm.ClassFile.FieldType)).before args0 about1 = true := code_word (m := ⟨0, 0⟩) (meth := k0m0) (c := k0c0) (by decide +kernel) rfl rfl rfl (by decide +kernel)
set_option maxRecDepth 65536 in
theorem w_c5 : (Jvm.Cond.code ({ cls := "com/example/colonnade/colonnade/TokenValues", name := "asciiLowerCase", desc := "(Ljava/lang/String;)Ljava/lang/String;" } : Jvm.MethodName) prog_106_method_2_code (3 : Nat) (Option.some (Jvm.ClassFile.FieldType.object "java/lang/String"))).before args0 about1 = true := code_word (m := ⟨8, 1⟩) (meth := k8m1) (c := k8c1) (by decide +kernel) rfl rfl rfl (by decide +kernel)
set_option maxRecDepth 65536 in
theorem w_c6 : (Jvm.Cond.code ({ cls := "java/lang/String", name := "toCharArray", desc := "()[C" } : Jvm.MethodName) jdk_42_method_129_code (1 : Nat) (Option.some (Jvm.ClassFile.FieldType.array Jvm.ClassFile.FieldType.char))).before args0 about1 = true := code_word (m := ⟨7, 4⟩) (meth := k7m4) (c := k7c4) (by decide +kernel) rfl rfl rfl (by decide +kernel)
set_option maxRecDepth 65536 in
theorem w_c7 : (Jvm.Cond.code ({ cls := "java/lang/String", name := "isLatin1", desc := "()Z" } : Jvm.MethodName) jdk_42_method_154_code (1 : Nat) (Option.some Jvm.ClassFile.FieldType.boolean)).before args0 about1 = true := code_word (m := ⟨7, 7⟩) (meth := k7m7) (c := k7c7) (by decide +kernel) rfl rfl rfl (by decide +kernel)
set_option maxRecDepth 65536 in
theorem w_c8 : (Jvm.Cond.code ({ cls := "java/lang/StringLatin1", name := "toChars", desc := "([B)[C" } : Jvm.MethodName) jdk_43_method_9_code (2 : Nat) (Option.some (Jvm.ClassFile.FieldType.array Jvm.ClassFile.FieldType.char))).before args0 about1 = true := code_word (m := ⟨9, 2⟩) (meth := k9m2) (c := k9c2) (by decide +kernel) rfl rfl rfl (by decide +kernel)
set_option maxRecDepth 65536 in
theorem w_c9 : (Jvm.Cond.code ({ cls := "java/lang/StringLatin1", name := "inflate", desc := "([BI[CII)V" } : Jvm.MethodName) jdk_43_method_49_code (6 : Nat) (Option.none : Option Jvm.ClassFile.FieldType)).before args0 about1 = true := code_word (m := ⟨9, 3⟩) (meth := k9m3) (c := k9c3) (by decide +kernel) rfl rfl rfl (by decide +kernel)
set_option maxRecDepth 65536 in
theorem w_c10 : (Jvm.Cond.code ({ cls := "java/lang/String", name := "length", desc := "()I" } : Jvm.MethodName) jdk_42_method_54_code (1 : Nat) (Option.some Jvm.ClassFile.FieldType.int)).before args0 about1 = true := code_word (m := ⟨7, 2⟩) (meth := k7m2) (c := k7c2) (by decide +kernel) rfl rfl rfl (by decide +kernel)
set_option maxRecDepth 65536 in
theorem w_c11 : (Jvm.Cond.code ({ cls := "java/lang/String", name := "coder", desc := "()B" } : Jvm.MethodName) jdk_42_method_152_code (1 : Nat) (Option.some Jvm.ClassFile.FieldType.byte)).before args0 about1 = true := code_word (m := ⟨7, 6⟩) (meth := k7m6) (c := k7c6) (by decide +kernel) rfl rfl rfl (by decide +kernel)
set_option maxRecDepth 65536 in
theorem w_c12 : (Jvm.Cond.code ({ cls := "java/lang/StringUTF16", name := "compress", desc := "([CII)[B" } : Jvm.MethodName) jdk_52_method_16_code (6 : Nat) (Option.some (Jvm.ClassFile.FieldType.array Jvm.ClassFile.FieldType.byte))).before args0 about1 = true := code_word (m := ⟨10, 9⟩) (meth := k10m9) (c := k10c9) (by decide +kernel) rfl rfl rfl (by decide +kernel)
set_option maxRecDepth 65536 in
theorem w_c13 : (Jvm.Cond.code ({ cls := "java/lang/StringUTF16", name := "compress", desc := "([CI[BII)I" } : Jvm.MethodName) jdk_52_method_21_code (7 : Nat) (Option.some Jvm.ClassFile.FieldType.int)).before args0 about1 = true := code_word (m := ⟨10, 10⟩) (meth := k10m10) (c := k10c10) (by decide +kernel) rfl rfl rfl (by decide +kernel)
set_option maxRecDepth 65536 in
theorem w_c14 : (Jvm.Cond.code ({ cls := "java/lang/StringUTF16", name := "coderFromArrayLen", desc := "([BI)B" } : Jvm.MethodName) jdk_52_method_15_code (2 : Nat) (Option.some Jvm.ClassFile.FieldType.byte)).before args0 about1 = true := code_word (m := ⟨10, 8⟩) (meth := k10m8) (c := k10c8) (by decide +kernel) rfl rfl rfl (by decide +kernel)
set_option maxRecDepth 65536 in
theorem w_c15 : (Jvm.Cond.code ({ cls := "com/example/colonnade/colonnade/TokenValues", name := "asciiLowerCase", desc := "(C)C" } : Jvm.MethodName) prog_106_method_4_code (1 : Nat) (Option.some Jvm.ClassFile.FieldType.char)).before args0 about1 = true := code_word (m := ⟨8, 2⟩) (meth := k8m2) (c := k8c2) (by decide +kernel) rfl rfl rfl (by decide +kernel)
set_option maxRecDepth 65536 in
theorem w_c16 : (Jvm.Cond.code ({ cls := "java/lang/String", name := "charAt", desc := "(I)C" } : Jvm.MethodName) jdk_42_method_56_code (2 : Nat) (Option.some Jvm.ClassFile.FieldType.char)).before args0 about1 = true := code_word (m := ⟨7, 3⟩) (meth := k7m3) (c := k7c3) (by decide +kernel) rfl rfl rfl (by decide +kernel)
set_option maxRecDepth 65536 in
theorem w_c17 : (Jvm.Cond.code ({ cls := "java/lang/StringLatin1", name := "charAt", desc := "([BI)C" } : Jvm.MethodName) jdk_43_method_2_code (2 : Nat) (Option.some Jvm.ClassFile.FieldType.char)).before args0 about1 = true := code_word (m := ⟨9, 1⟩) (meth := k9m1) (c := k9c1) (by decide +kernel) rfl rfl rfl (by decide +kernel)
set_option maxRecDepth 65536 in
theorem w_c18 : (Jvm.Cond.code ({ cls := "java/lang/String", name := "checkIndex", desc := "(II)V" } : Jvm.MethodName) jdk_42_method_155_code (2 : Nat) (Option.none : Option Jvm.ClassFile.FieldType)).before args0 about1 = true := code_word (m := ⟨7, 8⟩) (meth := k7m8) (c := k7c8) (by decide +kernel) rfl rfl rfl (by decide +kernel)
set_option maxRecDepth 65536 in
theorem w_c19 : (Jvm.Cond.code ({ cls := "jdk/internal/util/Preconditions", name := "checkIndex", desc := "(IILjava/util/function/BiFunction;)I" } : Jvm.MethodName) jdk_41_method_11_code (3 : Nat) (Option.some Jvm.ClassFile.FieldType.int)).before args0 about1 = true := code_word (m := ⟨11, 1⟩) (meth := k11m1) (c := k11c1) (by decide +kernel) rfl rfl rfl (by decide +kernel)
set_option maxRecDepth 65536 in
theorem w_c20 : (Jvm.Cond.code ({ cls := "com/example/colonnade/colonnade/TokenValuesAsciiLowerCasePinLaw", name := "lower", desc := "(C)C" } : Jvm.MethodName) method_2_code (1 : Nat) (Option.some Jvm.ClassFile.FieldType.char)).before args0 about1 = true := code_word (m := ⟨1, 1⟩) (meth := k1m1) (c := k1c1) (by decide +kernel) rfl rfl rfl (by decide +kernel)
set_option maxRecDepth 65536 in
theorem w_c21 : (Jvm.Cond.code ({ cls := "java/lang/StringUTF16", name := "toBytes", desc := "([CII)[B" } : Jvm.MethodName) jdk_52_method_14_code (5 : Nat) (Option.some (Jvm.ClassFile.FieldType.array Jvm.ClassFile.FieldType.byte))).before args0 about1 = true := code_word (m := ⟨10, 7⟩) (meth := k10m7) (c := k10c7) (by decide +kernel) rfl rfl rfl (by decide +kernel)
set_option maxRecDepth 65536 in
theorem w_c22 : (Jvm.Cond.code ({ cls := "java/lang/StringUTF16", name := "newBytesFor", desc := "(I)[B" } : Jvm.MethodName) jdk_52_method_2_code (1 : Nat) (Option.some (Jvm.ClassFile.FieldType.array Jvm.ClassFile.FieldType.byte))).before args0 about1 = true := code_word (m := ⟨10, 1⟩) (meth := k10m1) (c := k10c1) (by decide +kernel) rfl rfl rfl (by decide +kernel)
set_option maxRecDepth 65536 in
theorem w_c23 : (Jvm.Cond.code ({ cls := "java/lang/StringUTF16", name := "newBytesLength", desc := "(I)I" } : Jvm.MethodName) jdk_52_method_3_code (1 : Nat) (Option.some Jvm.ClassFile.FieldType.int)).before args0 about1 = true := code_word (m := ⟨10, 2⟩) (meth := k10m2) (c := k10c2) (by decide +kernel) rfl rfl rfl (by decide +kernel)
set_option maxRecDepth 65536 in
theorem w_c24 : (Jvm.Cond.code ({ cls := "java/lang/StringUTF16", name := "putChar", desc := "([BII)V" } : Jvm.MethodName) jdk_52_method_4_code (3 : Nat) (Option.none : Option Jvm.ClassFile.FieldType)).before args0 about1 = true := code_word (m := ⟨10, 3⟩) (meth := k10m3) (c := k10c3) (by decide +kernel) rfl rfl rfl (by decide +kernel)
set_option maxRecDepth 65536 in
theorem w_c25 : (Jvm.Cond.code ({ cls := "java/lang/StringUTF16", name := "getChar", desc := "([BI)C" } : Jvm.MethodName) jdk_52_method_5_code (2 : Nat) (Option.some Jvm.ClassFile.FieldType.char)).before args0 about1 = true := code_word (m := ⟨10, 4⟩) (meth := k10m4) (c := k10c4) (by decide +kernel) rfl rfl rfl (by decide +kernel)
set_option maxRecDepth 65536 in
theorem w_c26 : (Jvm.Cond.code ({ cls := "java/lang/StringUTF16", name := "toChars", desc := "([B)[C" } : Jvm.MethodName) jdk_52_method_13_code (2 : Nat) (Option.some (Jvm.ClassFile.FieldType.array Jvm.ClassFile.FieldType.char))).before args0 about1 = true := code_word (m := ⟨10, 6⟩) (meth := k10m6) (c := k10c6) (by decide +kernel) rfl rfl rfl (by decide +kernel)
set_option maxRecDepth 65536 in
theorem w_c27 : (Jvm.Cond.code ({ cls := "java/lang/StringUTF16", name := "getChars", desc := "([BII[CI)V" } : Jvm.MethodName) jdk_52_method_26_code (6 : Nat) (Option.none : Option Jvm.ClassFile.FieldType)).before args0 about1 = true := code_word (m := ⟨10, 11⟩) (meth := k10m11) (c := k10c11) (by decide +kernel) rfl rfl rfl (by decide +kernel)
set_option maxRecDepth 65536 in
theorem w_c28 : (Jvm.Cond.code ({ cls := "java/lang/StringUTF16", name := "checkBoundsOffCount", desc := "(II[B)V" } : Jvm.MethodName) jdk_52_method_94_code (3 : Nat) (Option.none : Option Jvm.ClassFile.FieldType)).before args0 about1 = true := code_word (m := ⟨10, 14⟩) (meth := k10m14) (c := k10c14) (by decide +kernel) rfl rfl rfl (by decide +kernel)
set_option maxRecDepth 65536 in
theorem w_c29 : (Jvm.Cond.code ({ cls := "java/lang/StringUTF16", name := "length", desc := "([B)I" } : Jvm.MethodName) jdk_52_method_6_code (1 : Nat) (Option.some Jvm.ClassFile.FieldType.int)).before args0 about1 = true := code_word (m := ⟨10, 5⟩) (meth := k10m5) (c := k10c5) (by decide +kernel) rfl rfl rfl (by decide +kernel)
set_option maxRecDepth 65536 in
theorem w_c30 : (Jvm.Cond.code ({ cls := "java/lang/String", name := "checkBoundsOffCount", desc := "(III)I" } : Jvm.MethodName) jdk_42_method_157_code (3 : Nat) (Option.some Jvm.ClassFile.FieldType.int)).before args0 about1 = true := code_word (m := ⟨7, 9⟩) (meth := k7m9) (c := k7c9) (by decide +kernel) rfl rfl rfl (by decide +kernel)
set_option maxRecDepth 65536 in
theorem w_c31 : (Jvm.Cond.code ({ cls := "jdk/internal/util/Preconditions", name := "checkFromIndexSize", desc := "(IIILjava/util/function/BiFunction;)I" } : Jvm.MethodName) jdk_41_method_13_code (4 : Nat) (Option.some Jvm.ClassFile.FieldType.int)).before args0 about1 = true := code_word (m := ⟨11, 2⟩) (meth := k11m2) (c := k11c2) (by decide +kernel) rfl rfl rfl (by decide +kernel)
set_option maxRecDepth 65536 in
theorem w_c32 : (Jvm.Cond.code ({ cls := "java/lang/StringUTF16", name := "charAt", desc := "([BI)C" } : Jvm.MethodName) jdk_52_method_83_code (2 : Nat) (Option.some Jvm.ClassFile.FieldType.char)).before args0 about1 = true := code_word (m := ⟨10, 12⟩) (meth := k10m12) (c := k10c12) (by decide +kernel) rfl rfl rfl (by decide +kernel)
set_option maxRecDepth 65536 in
theorem w_c33 : (Jvm.Cond.code ({ cls := "java/lang/StringUTF16", name := "checkIndex", desc := "(I[B)V" } : Jvm.MethodName) jdk_52_method_91_code (2 : Nat) (Option.none : Option Jvm.ClassFile.FieldType)).before args0 about1 = true := code_word (m := ⟨10, 13⟩) (meth := k10m13) (c := k10c13) (by decide +kernel) rfl rfl rfl (by decide +kernel)
def codes1 : List Jvm.Cond := [Jvm.Cond.code x code maxLocals ret, Jvm.Cond.code ({ cls := "com/example/colonnade/colonnade/TokenValuesAsciiLowerCasePinLaw", name := "make", desc := "(ICCCCC)Ljava/lang/String;" } : Jvm.MethodName) method_3_code (6 : Nat) (Option.some (Jvm.ClassFile.FieldType.object "java/lang/String")), Jvm.Cond.code ({ cls := "java/lang/String", name := "<init>", desc := "([C)V" } : Jvm.MethodName) jdk_42_method_3_code (2 : Nat) (Option.none : Option Jvm.ClassFile.FieldType), Jvm.Cond.code ({ cls := "java/lang/String", name := "<init>", desc := "([CIILjava/lang/Void;)V" } : Jvm.MethodName) jdk_42_method_149_code (6 : Nat) (Option.none : Option Jvm.ClassFile.FieldType), Jvm.Cond.code ({ cls := "java/lang/Object", name := "<init>", desc := "()V" } : Jvm.MethodName) object_method_1_code (1 : Nat) (Option.none : Option Jvm.ClassFile.FieldType), Jvm.Cond.code ({ cls := "com/example/colonnade/colonnade/TokenValues", name := "asciiLowerCase", desc := "(Ljava/lang/String;)Ljava/lang/String;" } : Jvm.MethodName) prog_106_method_2_code (3 : Nat) (Option.some (Jvm.ClassFile.FieldType.object "java/lang/String")), Jvm.Cond.code ({ cls := "java/lang/String", name := "toCharArray", desc := "()[C" } : Jvm.MethodName) jdk_42_method_129_code (1 : Nat) (Option.some (Jvm.ClassFile.FieldType.array Jvm.ClassFile.FieldType.char)), Jvm.Cond.code ({ cls := "java/lang/String", name := "isLatin1", desc := "()Z" } : Jvm.MethodName) jdk_42_method_154_code (1 : Nat) (Option.some Jvm.ClassFile.FieldType.boolean), Jvm.Cond.code ({ cls := "java/lang/StringLatin1", name := "toChars", desc := "([B)[C" } : Jvm.MethodName) jdk_43_method_9_code (2 : Nat) (Option.some (Jvm.ClassFile.FieldType.array Jvm.ClassFile.FieldType.char)), Jvm.Cond.code ({ cls := "java/lang/StringLatin1", name := "inflate", desc := "([BI[CII)V" } : Jvm.MethodName) jdk_43_method_49_code (6 : Nat) (Option.none : Option Jvm.ClassFile.FieldType), Jvm.Cond.code ({ cls := "java/lang/String", name := "length", desc := "()I" } : Jvm.MethodName) jdk_42_method_54_code (1 : Nat) (Option.some Jvm.ClassFile.FieldType.int), Jvm.Cond.code ({ cls := "java/lang/String", name := "coder", desc := "()B" } : Jvm.MethodName) jdk_42_method_152_code (1 : Nat) (Option.some Jvm.ClassFile.FieldType.byte), Jvm.Cond.code ({ cls := "java/lang/StringUTF16", name := "compress", desc := "([CII)[B" } : Jvm.MethodName) jdk_52_method_16_code (6 : Nat) (Option.some (Jvm.ClassFile.FieldType.array Jvm.ClassFile.FieldType.byte)), Jvm.Cond.code ({ cls := "java/lang/StringUTF16", name := "compress", desc := "([CI[BII)I" } : Jvm.MethodName) jdk_52_method_21_code (7 : Nat) (Option.some Jvm.ClassFile.FieldType.int), Jvm.Cond.code ({ cls := "java/lang/StringUTF16", name := "coderFromArrayLen", desc := "([BI)B" } : Jvm.MethodName) jdk_52_method_15_code (2 : Nat) (Option.some Jvm.ClassFile.FieldType.byte), Jvm.Cond.code ({ cls := "com/example/colonnade/colonnade/TokenValues", name := "asciiLowerCase", desc := "(C)C" } : Jvm.MethodName) prog_106_method_4_code (1 : Nat) (Option.some Jvm.ClassFile.FieldType.char), Jvm.Cond.code ({ cls := "java/lang/String", name := "charAt", desc := "(I)C" } : Jvm.MethodName) jdk_42_method_56_code (2 : Nat) (Option.some Jvm.ClassFile.FieldType.char), Jvm.Cond.code ({ cls := "java/lang/StringLatin1", name := "charAt", desc := "([BI)C" } : Jvm.MethodName) jdk_43_method_2_code (2 : Nat) (Option.some Jvm.ClassFile.FieldType.char), Jvm.Cond.code ({ cls := "java/lang/String", name := "checkIndex", desc := "(II)V" } : Jvm.MethodName) jdk_42_method_155_code (2 : Nat) (Option.none : Option Jvm.ClassFile.FieldType), Jvm.Cond.code ({ cls := "jdk/internal/util/Preconditions", name := "checkIndex", desc := "(IILjava/util/function/BiFunction;)I" } : Jvm.MethodName) jdk_41_method_11_code (3 : Nat) (Option.some Jvm.ClassFile.FieldType.int), Jvm.Cond.code ({ cls := "com/example/colonnade/colonnade/TokenValuesAsciiLowerCasePinLaw", name := "lower", desc := "(C)C" } : Jvm.MethodName) method_2_code (1 : Nat) (Option.some Jvm.ClassFile.FieldType.char), Jvm.Cond.code ({ cls := "java/lang/StringUTF16", name := "toBytes", desc := "([CII)[B" } : Jvm.MethodName) jdk_52_method_14_code (5 : Nat) (Option.some (Jvm.ClassFile.FieldType.array Jvm.ClassFile.FieldType.byte)), Jvm.Cond.code ({ cls := "java/lang/StringUTF16", name := "newBytesFor", desc := "(I)[B" } : Jvm.MethodName) jdk_52_method_2_code (1 : Nat) (Option.some (Jvm.ClassFile.FieldType.array Jvm.ClassFile.FieldType.byte)), Jvm.Cond.code ({ cls := "java/lang/StringUTF16", name := "newBytesLength", desc := "(I)I" } : Jvm.MethodName) jdk_52_method_3_code (1 : Nat) (Option.some Jvm.ClassFile.FieldType.int), Jvm.Cond.code ({ cls := "java/lang/StringUTF16", name := "putChar", desc := "([BII)V" } : Jvm.MethodName) jdk_52_method_4_code (3 : Nat) (Option.none : Option Jvm.ClassFile.FieldType), Jvm.Cond.code ({ cls := "java/lang/StringUTF16", name := "getChar", desc := "([BI)C" } : Jvm.MethodName) jdk_52_method_5_code (2 : Nat) (Option.some Jvm.ClassFile.FieldType.char), Jvm.Cond.code ({ cls := "java/lang/StringUTF16", name := "toChars", desc := "([B)[C" } : Jvm.MethodName) jdk_52_method_13_code (2 : Nat) (Option.some (Jvm.ClassFile.FieldType.array Jvm.ClassFile.FieldType.char)), Jvm.Cond.code ({ cls := "java/lang/StringUTF16", name := "getChars", desc := "([BII[CI)V" } : Jvm.MethodName) jdk_52_method_26_code (6 : Nat) (Option.none : Option Jvm.ClassFile.FieldType), Jvm.Cond.code ({ cls := "java/lang/StringUTF16", name := "checkBoundsOffCount", desc := "(II[B)V" } : Jvm.MethodName) jdk_52_method_94_code (3 : Nat) (Option.none : Option Jvm.ClassFile.FieldType), Jvm.Cond.code ({ cls := "java/lang/StringUTF16", name := "length", desc := "([B)I" } : Jvm.MethodName) jdk_52_method_6_code (1 : Nat) (Option.some Jvm.ClassFile.FieldType.int), Jvm.Cond.code ({ cls := "java/lang/String", name := "checkBoundsOffCount", desc := "(III)I" } : Jvm.MethodName) jdk_42_method_157_code (3 : Nat) (Option.some Jvm.ClassFile.FieldType.int), Jvm.Cond.code ({ cls := "jdk/internal/util/Preconditions", name := "checkFromIndexSize", desc := "(IIILjava/util/function/BiFunction;)I" } : Jvm.MethodName) jdk_41_method_13_code (4 : Nat) (Option.some Jvm.ClassFile.FieldType.int), Jvm.Cond.code ({ cls := "java/lang/StringUTF16", name := "charAt", desc := "([BI)C" } : Jvm.MethodName) jdk_52_method_83_code (2 : Nat) (Option.some Jvm.ClassFile.FieldType.char), Jvm.Cond.code ({ cls := "java/lang/StringUTF16", name := "checkIndex", desc := "(I[B)V" } : Jvm.MethodName) jdk_52_method_91_code (2 : Nat) (Option.none : Option Jvm.ClassFile.FieldType)]
set_option maxRecDepth 65536 in
theorem codes_eq : words1.filter isCode = codes1 := rfl
theorem w_codes : ∀ c ∈ words1.filter isCode, c.before args0 about1 = true := by
  rw [codes_eq]
  intro c hc
  simp only [codes1, List.mem_cons, List.not_mem_nil, or_false] at hc
  rcases hc with rfl | rfl | rfl | rfl | rfl | rfl | rfl | rfl | rfl | rfl | rfl | rfl | rfl | rfl | rfl | rfl | rfl | rfl | rfl | rfl | rfl | rfl | rfl | rfl | rfl | rfl | rfl | rfl | rfl | rfl | rfl | rfl | rfl | rfl
  · exact w_c0
  · exact w_c1
  · exact w_c2
  · exact w_c3
  · exact w_c4
  · exact w_c5
  · exact w_c6
  · exact w_c7
  · exact w_c8
  · exact w_c9
  · exact w_c10
  · exact w_c11
  · exact w_c12
  · exact w_c13
  · exact w_c14
  · exact w_c15
  · exact w_c16
  · exact w_c17
  · exact w_c18
  · exact w_c19
  · exact w_c20
  · exact w_c21
  · exact w_c22
  · exact w_c23
  · exact w_c24
  · exact w_c25
  · exact w_c26
  · exact w_c27
  · exact w_c28
  · exact w_c29
  · exact w_c30
  · exact w_c31
  · exact w_c32
  · exact w_c33
set_option maxRecDepth 65536 in
theorem w_t1 : (words1.take 24).all (fun c => isCode c || c.before args0 about1) = true := by decide +kernel
set_option maxRecDepth 65536 in
theorem w_t2 : ((words1.drop 24).take 24).all (fun c => isCode c || c.before args0 about1) = true := by decide +kernel
set_option maxRecDepth 65536 in
theorem w_t3 : (((words1.drop 24).drop 24).take 24).all (fun c => isCode c || c.before args0 about1) = true := by decide +kernel
set_option maxRecDepth 65536 in
theorem w_t4 : ((((words1.drop 24).drop 24).drop 24).take 24).all (fun c => isCode c || c.before args0 about1) = true := by decide +kernel
set_option maxRecDepth 65536 in
theorem w_t5 : (((((words1.drop 24).drop 24).drop 24).drop 24).take 24).all (fun c => isCode c || c.before args0 about1) = true := by decide +kernel
set_option maxRecDepth 65536 in
theorem w_t6 : (((((words1.drop 24).drop 24).drop 24).drop 24).drop 24).all (fun c => isCode c || c.before args0 about1) = true := by decide +kernel
theorem w_tables : (allAtoms (Jvm.Cond.code x code maxLocals ret :: tables_1)).before args0 about1 = true := by
  rw [allAtoms_all]
  show words1.all (fun c => c.before args0 about1) = true
  refine all_split ?_ w_codes
  rw [← List.take_append_drop 24 words1, List.all_append, w_t1, ← List.take_append_drop 24 (words1.drop 24), List.all_append, w_t2, ← List.take_append_drop 24 ((words1.drop 24).drop 24), List.all_append, w_t3, ← List.take_append_drop 24 (((words1.drop 24).drop 24).drop 24), List.all_append, w_t4, ← List.take_append_drop 24 ((((words1.drop 24).drop 24).drop 24).drop 24), List.all_append, w_t5, w_t6]
  rfl
set_option maxRecDepth 65536 in
theorem w_rest : rest_1_c.before args0 about1 = true := by decide +kernel
set_option maxRecDepth 65536 in
theorem w_case : (Jvm.Cond.and given_1 narrow_1).before args0 about1 = true := by decide +kernel
set_option maxRecDepth 65536 in
theorem w_consts : constsHeld consts_1 about1 := Jvm.Lit.constsHeldB_iff.mp (by decide +kernel)
theorem w_applies : (headSpec (Jvm.Cond.code x code maxLocals ret :: tables_1) room_1).applies x e0.platform about1 = true :=
  (Spec.applies_iff w_frames).mpr ⟨w_running, w_runnable, w_alone, w_named, w_hears, w_ripe, w_room, w_tables⟩
theorem atStart : AtStart classFile x code maxLocals ret World_1 tables_1 room_1 Calls_1 rest_1 Pre_1 launch0 p0 e0 about1 theMethod args0 below0 :=
  ⟨lists_1, trivial, launch0.admits_env _ _ _, launch0.least_env, fairChoices_fair.cas, fairChoices_fair.clock, w_frames, w_args, w_heap, w_applies, ⟨w_consts, trivial⟩, w_rest, w_case⟩
end start1
theorem witness_1 : WitnessClaimed_1 := ⟨start1.p0, start1.e0, start1.about1, start1.theMethod, start1.args0, start1.below0, start1.atStart⟩
end Jvm.Pilot.@@N@@
